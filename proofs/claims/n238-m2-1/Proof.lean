import JvmDerived
import JvmDerived.Pilot.@@N@@Statement
import JvmDerived.Pilot.@@N@@Code
set_option linter.unusedVariables false
set_option linter.unusedSimpArgs false
@@BLOCK:NumsL.lean.txt@@
@@BLOCK:LamKit.lean.txt@@
namespace Jvm.Pilot.@@N@@
open Jvm Jvm.ClassFile Sem Op Lib Jvm.Free Jvm.Stand Jvm.LawKit Jvm.RoadKit Bundle Jvm.Pilot.@@N@@.Jvm.D
section Own
variable {p : Program} {l : Launch} {e : Env} {R : Room} {s : State} {m : MethodId} {args : Array Value} {below : List Frame} {meth : Method} {c : Code} {T : State} {locs : List Loc} {cells slots : Nat} {Z : State} {a0 : Array Value} {h : Heap}
/-- from here the walk comes to an end that P holds of -/
def own_G (p : Program) (e : Env) (below : List Frame) (P : State → Outcome → Prop) (T : State) (g : JFrame) : Prop := ∃ t o, Steps p.tables e below (T.setTop g) t ∧ P t o
def own_P (below : List Frame) (s : State) (rm : Room) (Q : Option Value → Heap → List Loc → Prop) (t : State) (o : Outcome) : Prop := t.status = .running ∧ Ended t below o ∧ ∃ v L, o = .returned v ∧ Q v t.heap L ∧ FrameEnd s o t L rm.cells rm.slots
/-- a body's contract: over these arguments and this heap it returns, and Q holds of what it returns, the heap and the places written -/
def own_M (l : Launch) (Z : State) (y : MethodName) (code : ByteArray) (maxL : Nat) (ret : Option FieldType) (rm : Room) (as : Array Value) (h : Heap) (Q : Option Value → Heap → List Loc → Prop) : Prop :=
  ∀ ws : List Jvm.Cond, MetFree l y (head1 (Jvm.Cond.code y code maxL ret :: ws) rm) (fun a U => a = as ∧ Z.WarmedH U.vm ∧ U.heap = h) (fun _ _ _ _ _ => True) (fun _ U o U' => ∃ v L, o = .returned v ∧ Q v U'.heap L ∧ FrameEnd U o U' L rm.cells rm.slots)
theorem own_go {P : State → Outcome → Prop} {T' : State} {g g' : JFrame} (st : ∀ t, Steps p.tables e below (T'.setTop g') t → Steps p.tables e below (T.setTop g) t) (k : own_G p e below P T' g') : own_G p e below P T g := by
  obtain ⟨t, o, h1, h2⟩ := k
  exact ⟨t, o, st t h1, h2⟩
theorem own_body {y : MethodName} {code : ByteArray} {maxL : Nat} {ret : Option FieldType} {rm : Room} {as : Array Value} {Q : Option Value → Heap → List Loc → Prop} (hn : plainFor y = true)
    (body : ∀ (p : Program) (e : Env) (s : State) (m : MethodId) (below : List Frame) (meth : Method) (c : Code) (T : State), p.tables.exec = Jvm.exec → c.code = code → c.maxLocals = maxL → meth.locks = false → s.vm.findClass y.cls = some m.cls → meth.sig.returnType = ret → meth.name = y.name → Z.WarmedH s.vm → s.methodNamed? y = some m → Stand p l e rm s m as below meth c T [] 0 0 → T.heap = h → own_G p e below (own_P below s rm Q) T (entryFrame m as maxL)) :
    own_M l Z y code maxL ret rm as h Q := by
  intro ws
  refine MetFree.of_bodySF hn hisR ?_
  intro p e s m args below meth c s₁ Bd hml0 hP hK
  obtain ⟨rfl, hZ, hh⟩ := hP
  obtain ⟨t, o, h1, h2, h3, h4⟩ := body p e s m below meth c s₁ Bd.exec Bd.bytes hml0 Bd.notSynchronized (findClass_of_methodNamed Bd.named) Bd.returns (name_of_methodNamed Bd.named Bd.method).1 hZ Bd.named (Stand.of_body Bd) (by rw [← hh, Bd.state]; rfl)
  exact ⟨t, o, h1, h2, h3, h4⟩
theorem own_retI {rm : Room} {Q : Option Value → Heap → List Loc → Prop} (X : Stand p l e R s m args below meth c T locs cells slots) (hx : p.tables.exec = Jvm.exec) (hlk : meth.locks = false) (hret : meth.sig.returnType = some .int) {pc : Nat} {Ls : Array Slot} {z : Int32} {rest : List Value} (hd : decode c.code pc = .ok (.ireturn, 1)) (hc : cells ≤ rm.cells) (hs : slots ≤ rm.slots) (hQ : Q (some (.int z)) T.heap locs) :
    own_G p e below (own_P below s rm Q) T (mkF m pc Ls (.int z :: rest)) := by
  obtain ⟨fs, hr, hrun, hended, hW, hsame⟩ := X.leave (v := some (.int z)) (fun h => by rw [hret] at h; cases h) hlk
  exact ⟨_, _, retOut X hx hret rfl (Or.inl ⟨rfl, Or.inl rfl, _, rfl⟩) hd hr, hrun, hended, _, _, rfl, hQ, ⟨_, rfl⟩, hW, hsame.mono hc hs⟩
theorem own_retN {rm : Room} {Q : Option Value → Heap → List Loc → Prop} (X : Stand p l e R s m args below meth c T locs cells slots) (hx : p.tables.exec = Jvm.exec) (hlk : meth.locks = false) {t : FieldType} (hret : meth.sig.returnType = some t) (ht : t = .boolean ∨ t = .byte ∨ t = .char ∨ t = .short) {pc : Nat} {Ls : Array Slot} {z : Int32} {rest : List Value} (hd : decode c.code pc = .ok (.ireturn, 1)) (hc : cells ≤ rm.cells) (hs : slots ≤ rm.slots) (hQ : Q (some (.int (nar t z))) T.heap locs) :
    own_G p e below (own_P below s rm Q) T (mkF m pc Ls (.int z :: rest)) := by
  obtain ⟨fs, hr, hrun, hended, hW, hsame⟩ := X.leave (v := some (.int (nar t z))) (fun h => by rw [hret] at h; cases h) hlk
  exact ⟨_, _, retN X hx hret ht hd hr, hrun, hended, _, _, rfl, hQ, ⟨_, rfl⟩, hW, hsame.mono hc hs⟩
theorem own_narrow {t : FieldType} {w : Value} (hw : w.isRef = true) : narrow t w = w := by
  rcases ref_cases hw with rfl | ⟨a, rfl⟩ <;> cases t <;> rfl
theorem own_retA {rm : Room} {Q : Option Value → Heap → List Loc → Prop} (X : Stand p l e R s m args below meth c T locs cells slots) (hx : p.tables.exec = Jvm.exec) (hlk : meth.locks = false) {t : FieldType} (hret : meth.sig.returnType = some t) (ht : t.isReference = true) {pc : Nat} {Ls : Array Slot} {w : Value} {rest : List Value} (hw : w.isRef = true) (hd : decode c.code pc = .ok (.areturn, 1)) (hc : cells ≤ rm.cells) (hs : slots ≤ rm.slots) (hQ : Q (some w) T.heap locs) :
    own_G p e below (own_P below s rm Q) T (mkF m pc Ls (w :: rest)) := by
  obtain ⟨fs, hr, hrun, hended, hW, hsame⟩ := X.leave (v := some w) (fun h => by rw [hret] at h; cases h) hlk
  exact ⟨_, _, retOut X hx hret (own_narrow hw) (Or.inr (Or.inr (Or.inr (Or.inr ⟨rfl, ht, hw⟩)))) hd hr, hrun, hended, _, _, rfl, hQ, ⟨_, rfl⟩, hW, hsame.mono hc hs⟩
theorem own_ret0 {rm : Room} {Q : Option Value → Heap → List Loc → Prop} (X : Stand p l e R s m args below meth c T locs cells slots) (hx : p.tables.exec = Jvm.exec) (hlk : meth.locks = false) (hret : meth.sig.returnType = none) {pc : Nat} {Ls : Array Slot} (hd : decode c.code pc = .ok (.return_, 1)) (hc : cells ≤ rm.cells) (hs : slots ≤ rm.slots) (hQ : Q none T.heap locs) :
    own_G p e below (own_P below s rm Q) T (mkF m pc Ls []) := by
  obtain ⟨fs, hr, hrun, hended, hW, hsame⟩ := X.leave (v := none) (fun _ => rfl) hlk
  exact ⟨_, _, X.returnOut hx hret hd hr, hrun, hended, _, _, rfl, hQ, ⟨_, rfl⟩, hW, hsame.mono hc hs⟩
theorem own_backOf {y : MethodName} {bytes : ByteArray} {maxL : Nat} {ret : Option FieldType} {rm : Room} {len W : Nat} {as' : Array Value} {Q : Option Value → Heap → List Loc → Prop}
    (hM : own_M l Z y bytes maxL ret rm as' h Q) (hH : Z.WarmedH s.vm) (wc : (Jvm.Cond.code y bytes maxL ret).before a0 Z = true) (wz : (Jvm.Cond.initialized y.cls).before a0 Z = true) (hf : rm.frames + 1 ≤ R.frames) (hl : W + (maxL + 11) + rm.locals ≤ R.locals) :
    Back l R p e below s args y len W (fun A a => a = as' ∧ A.U.heap = h ∧ A.cells + rm.cells ≤ R.cells ∧ A.slots + rm.slots ≤ R.slots)
      (fun A _ v B => ∃ L, Q v B.U.heap L ∧ B.locs = A.locs ++ L ∧ B.cells = A.cells + rm.cells ∧ B.slots = A.slots + rm.slots) := by
  refine Back.of_free (bytes := bytes) (maxL := maxL) (ret := ret) (E := fun _ _ o t L k n => k = rm.cells ∧ n = rm.slots ∧ ∃ v, o = .returned v ∧ Q v t.heap L) (hM []) hf hl ?_ ?_ (fun _ _ _ _ _ _ _ _ _ => trivial) ?_ ?_
  · intro m meth c A a Y hp
    have hU : Z.Warmed39 A.U.vm := wtrans hH.wide Y.warmed
    exact ⟨by show (Jvm.Cond.and _ .tt).before a A.U = true; rw [Jvm.Cond.before_and, mv hU wc]; rfl, mv hU wc, mv hU wz, hp.2.2.1, hp.2.2.2⟩
  · intro m meth c A a g mk Y hp
    exact ⟨hp.1, State.WarmedH.trans hH Y.warmed, hp.2.1⟩
  · rintro _ _ _ _ ⟨v, L, h1, h2, h3⟩
    exact ⟨L, _, _, h3, rfl, rfl, v, h1, h2⟩
  · rintro m meth c A a g mk v t L k n Y hp _ _ ⟨e1, e2, v', e3, e4⟩
    cases e3; subst e1 e2
    exact ⟨L, e4, rfl, rfl, rfl⟩
theorem own_callS (X : Stand p l e R s m args below meth c T locs cells slots) (hx : p.tables.exec = Jvm.exec) (hH : Z.WarmedH s.vm) {own : String} {index : Nat} {y : MethodName} {bytes : ByteArray} {maxL : Nat} {ret : Option FieldType} (hown : s.vm.findClass own = some m.cls)
    (w1 : (Jvm.Cond.methodLink own index y).before a0 Z = true) (w2 : (Jvm.Cond.static y).before a0 Z = true) (w3 : (Jvm.Cond.initialized y.cls).before a0 Z = true) (w4 : (Jvm.Cond.code y bytes maxL ret).before a0 Z = true) (hy : y.cls ≠ "java/lang/invoke/MethodHandle" ∧ y.cls ≠ "java/lang/invoke/VarHandle")
    {rm : Room} {argsL rest : List Value} {Q : Option Value → Heap → List Loc → Prop} (hM : own_M l Z y bytes maxL ret rm argsL.toArray h Q) (eT : T.heap = h) {g : JFrame} (hg : g.method = m) (hsize : g.locals.size = c.maxLocals) {ps : List FieldType} {r : Option FieldType} (hpd : parseMethodDescriptor y.desc = some ⟨ps, r⟩) (hpl : argsL.length = ps.length)
    (hstack : g.stack = argsL.reverse ++ rest) {W : Nat} (hW : 2 * g.monitorRoom + (rest.map fun v => v.category).sum ≤ W) (hdg : decode c.code g.pc = .ok (.invokestatic index, 3)) (hf : rm.frames + 1 ≤ R.frames) (hl : W + (maxL + 11) + rm.locals ≤ R.locals) (hc : cells + rm.cells ≤ R.cells) (hs : slots + rm.slots ≤ R.slots) :
    ∃ (T' : State) (L : List Loc) (v : Option Value), Stand p l e R s m args below meth c T' (locs ++ L) (cells + rm.cells) (slots + rm.slots) ∧ Q v T'.heap L ∧ ∀ t, Steps p.tables e below (T'.setTop { g with pc := g.pc + 3, stack := v.toList ++ rest }) t → Steps p.tables e below (T.setTop g) t := by
  have hZ := hH.wide
  obtain ⟨v, vm₁, ⟨T', L', k', n'⟩, -, X', ⟨L, hQ, e1, e2, e3⟩, st⟩ := Jvm.LawKit.callS X hx (y := y) hown (mvT hZ w1) (mvT hZ w2) (mvT hZ w3) (mvT hZ w4) hy (own_backOf (W := W) hM hH w4 w3 hf hl) hg hsize (argsL := argsL) (rest := rest) (lenOf hpd hpl) hstack hW hdg (fun _ _ => ⟨rfl, eT, hc, hs⟩)
  dsimp only [Pt.U, Pt.locs, Pt.cells, Pt.slots] at X' e1 e2 e3 st hQ
  subst e1 e2 e3
  exact ⟨T', L, v, X', hQ, st⟩
theorem own_callV (X : Stand p l e R s m args below meth c T locs cells slots) (hx : p.tables.exec = Jvm.exec) (hH : Z.WarmedH s.vm) {own C : String} {index : Nat} {y z : MethodName} {bytes : ByteArray} {maxL : Nat} {ret : Option FieldType} (hown : s.vm.findClass own = some m.cls)
    (w1 : (Jvm.Cond.methodLink own index y).before a0 Z = true) (w2 : (Jvm.Cond.declares y).before a0 Z = true) (w3 : (Jvm.Cond.selects y.cls y z).before a0 Z = true) (w3' : (Jvm.Cond.selects C y z).before a0 Z = true) (w4 : (Jvm.Cond.instanceMethod z).before a0 Z = true) (w5 : (Jvm.Cond.code z bytes maxL ret).before a0 Z = true) (w6 : (Jvm.Cond.initialized z.cls).before a0 Z = true) (hnf : NotFace s y)
    (hy : y.cls ≠ "java/lang/invoke/MethodHandle" ∧ y.cls ≠ "java/lang/invoke/VarHandle")
    {rm : Room} {a : Addr} {argsL rest : List Value} {Q : Option Value → Heap → List Loc → Prop} (hM : own_M l Z z bytes maxL ret rm (.ref a :: argsL).toArray h Q) (eT : T.heap = h) (E : Exa Z h a C) {g : JFrame} (hg : g.method = m) (hsize : g.locals.size = c.maxLocals) {ps : List FieldType} {r : Option FieldType} (hpd : parseMethodDescriptor y.desc = some ⟨ps, r⟩) (hpl : argsL.length = ps.length)
    (hstack : g.stack = argsL.reverse ++ .ref a :: rest) {W : Nat} (hW : 2 * g.monitorRoom + (rest.map fun v => v.category).sum ≤ W) (hdg : decode c.code g.pc = .ok (.invokevirtual index, 3)) (hf : rm.frames + 1 ≤ R.frames) (hl : W + (maxL + 11) + rm.locals ≤ R.locals) (hc : cells + rm.cells ≤ R.cells) (hs : slots + rm.slots ≤ R.slots) :
    ∃ (T' : State) (L : List Loc) (v : Option Value), Stand p l e R s m args below meth c T' (locs ++ L) (cells + rm.cells) (slots + rm.slots) ∧ Q v T'.heap L ∧ ∀ t, Steps p.tables e below (T'.setTop { g with pc := g.pc + 3, stack := v.toList ++ rest }) t → Steps p.tables e below (T.setTop g) t := by
  obtain ⟨cq, kq, qa, qb, qc⟩ := isOf hH.wide eT E
  have hZ := hH.wide
  obtain ⟨v, vm₁, ⟨T', L', k', n'⟩, -, X', ⟨L, hQ, e1, e2, e3⟩, st⟩ := X.virtualBack hx (y := y) (z := z) hown (mvT hZ w1) (mvT hZ w2) hnf (mvT hZ w3') (mvT hZ w4) hy (own_backOf (W := W) hM hH w5 w6 hf hl) qa qc hg hsize (Steps.refl _) (argsL := argsL) (rest := rest) (lenOf hpd hpl) hstack hW hdg (fun _ _ => ⟨rfl, eT, hc, hs⟩)
  dsimp only [Pt.U, Pt.locs, Pt.cells, Pt.slots] at X' e1 e2 e3 st hQ
  subst e1 e2 e3
  exact ⟨T', L, v, X', hQ, fun t k => st.trans k⟩
theorem own_callU (X : Stand p l e R s m args below meth c T locs cells slots) (hx : p.tables.exec = Jvm.exec) (hH : Z.WarmedH s.vm) {own C owner : String} {index : Nat} {y z : MethodName} {bytes : ByteArray} {maxL : Nat} {ret : Option FieldType} (hown : s.vm.findClass own = some m.cls)
    (w1 : (Jvm.Cond.methodLink own index y).before a0 Z = true) (w2 : (Jvm.Cond.sameMethod y.cls owner y.name y.desc).before a0 Z = true) (w2' : (Jvm.Cond.declares ⟨owner, y.name, y.desc⟩).before a0 Z = true) (w3 : (Jvm.Cond.selects C y z).before a0 Z = true) (w4 : (Jvm.Cond.instanceMethod z).before a0 Z = true) (w5 : (Jvm.Cond.code z bytes maxL ret).before a0 Z = true) (w6 : (Jvm.Cond.initialized z.cls).before a0 Z = true)
    (hy : owner ≠ "java/lang/invoke/MethodHandle" ∧ owner ≠ "java/lang/invoke/VarHandle")
    {rm : Room} {a : Addr} {argsL rest : List Value} {Q : Option Value → Heap → List Loc → Prop} (hM : own_M l Z z bytes maxL ret rm (.ref a :: argsL).toArray h Q) (eT : T.heap = h) (E : Exa Z h a C) {g : JFrame} (hg : g.method = m) (hsize : g.locals.size = c.maxLocals) {ps : List FieldType} {r : Option FieldType} (hpd : parseMethodDescriptor y.desc = some ⟨ps, r⟩) (hpl : argsL.length = ps.length)
    (hstack : g.stack = argsL.reverse ++ .ref a :: rest) {W : Nat} (hW : 2 * g.monitorRoom + (rest.map fun v => v.category).sum ≤ W) (hdg : decode c.code g.pc = .ok (.invokevirtual index, 3)) (hf : rm.frames + 1 ≤ R.frames) (hl : W + (maxL + 11) + rm.locals ≤ R.locals) (hc : cells + rm.cells ≤ R.cells) (hs : slots + rm.slots ≤ R.slots) :
    ∃ (T' : State) (L : List Loc) (v : Option Value), Stand p l e R s m args below meth c T' (locs ++ L) (cells + rm.cells) (slots + rm.slots) ∧ Q v T'.heap L ∧ ∀ t, Steps p.tables e below (T'.setTop { g with pc := g.pc + 3, stack := v.toList ++ rest }) t → Steps p.tables e below (T.setTop g) t := by
  obtain ⟨cq, kq, qa, qb, qc⟩ := isOf hH.wide eT E
  have hZ := hH.wide
  obtain ⟨v, vm₁, ⟨T', L', k', n'⟩, -, X', ⟨L, hQ, e1, e2, e3⟩, st⟩ := X.virtualBackUp hx (x := y) (y := z) hown (mvT hZ w1) (mvT hZ w2) (mvT hZ w2') hy (mvT hZ w3) (mvT hZ w4) (own_backOf (W := W) hM hH w5 w6 hf hl) qa qc hg hsize (Steps.refl _) (argsL := argsL) (rest := rest) (lenOf hpd hpl) hstack hW hdg (fun _ _ => ⟨rfl, eT, hc, hs⟩)
  dsimp only [Pt.U, Pt.locs, Pt.cells, Pt.slots] at X' e1 e2 e3 st hQ
  subst e1 e2 e3
  exact ⟨T', L, v, X', hQ, fun t k => st.trans k⟩
theorem own_callN (X : Stand p l e R s m args below meth c T locs cells slots) (hx : p.tables.exec = Jvm.exec) (hH : Z.WarmedH s.vm) {own : String} {index : Nat} {y : MethodName} {bytes : ByteArray} {maxL : Nat} (hy1 : y.name = "<init>") (hown : s.vm.findClass own = some m.cls)
    (w1 : (Jvm.Cond.methodLink own index y).before a0 Z = true) (w2 : (Jvm.Cond.instanceMethod y).before a0 Z = true) (w3 : (Jvm.Cond.code y bytes maxL none).before a0 Z = true) (w4 : (Jvm.Cond.initialized y.cls).before a0 Z = true) (hy : y.cls ≠ "java/lang/invoke/MethodHandle" ∧ y.cls ≠ "java/lang/invoke/VarHandle")
    {rm : Room} {a : Addr} {argsL rest : List Value} {Q : Option Value → Heap → List Loc → Prop} (hM : own_M l Z y bytes maxL none rm (.ref a :: argsL).toArray h Q) (eT : T.heap = h) {g : JFrame} (hg : g.method = m) (hsize : g.locals.size = c.maxLocals) {ps : List FieldType} {r : Option FieldType} (hpd : parseMethodDescriptor y.desc = some ⟨ps, r⟩) (hpl : argsL.length = ps.length)
    (hstack : g.stack = argsL.reverse ++ .ref a :: rest) {W : Nat} (hW : 2 * g.monitorRoom + (rest.map fun v => v.category).sum ≤ W) (hdg : decode c.code g.pc = .ok (.invokespecial index, 3)) (hf : rm.frames + 1 ≤ R.frames) (hl : W + (maxL + 11) + rm.locals ≤ R.locals) (hc : cells + rm.cells ≤ R.cells) (hs : slots + rm.slots ≤ R.slots) :
    ∃ (T' : State) (L : List Loc) (v : Option Value), Stand p l e R s m args below meth c T' (locs ++ L) (cells + rm.cells) (slots + rm.slots) ∧ Q v T'.heap L ∧ ∀ t, Steps p.tables e below (T'.setTop { g with pc := g.pc + 3, stack := v.toList ++ rest }) t → Steps p.tables e below (T.setTop g) t := by
  have hZ := hH.wide
  obtain ⟨v, vm₁, ⟨T', L', k', n'⟩, -, X', ⟨L, hQ, e1, e2, e3⟩, st⟩ := X.specialBack hx (y := y) hy1 hown (mvT hZ w1) (mvT hZ w2) (mvT hZ w3) hy (own_backOf (W := W) hM hH w3 w4 hf hl) hg hsize (Steps.refl _) (a := a) (argsL := argsL) (rest := rest) (lenOf hpd hpl) hstack hW hdg (fun _ _ => ⟨rfl, eT, hc, hs⟩)
  dsimp only [Pt.U, Pt.locs, Pt.cells, Pt.slots] at X' e1 e2 e3 st hQ
  subst e1 e2 e3
  exact ⟨T', L, v, X', hQ, fun t k => st.trans k⟩
theorem own_neL {i K : Int32} {k : Int} (h : ¬ i = K) (hk : K.toInt = k) : k ≠ i.toInt := fun q => h (Int32.toInt_inj.mp (by rw [hk, q]))
abbrev own_cell (cA : ClassId) (vs : Array Value) : Cell := { cls := cA, slots := vs, vm := .none }
theorem own_in {cl : Cell} {j : Int32} {n : Nat} (hs : cl.slots.size = n) (hj : ¬ (j < 0 ∨ n ≤ j.toNatClampNeg)) : ¬ (j < 0 ∨ cl.slots.size ≤ j.toNatClampNeg) := by rw [hs]; exact hj
theorem own_cellAt {cl : Cell} {ty : FieldType} {a : Addr} (q : T.heap = h) (A : Arr Z h a cl ty) : T.heap[a]? = some cl := q ▸ A.1
theorem own_cat {v : Value} (q : v.isRef = true) : v.category = 1 := by rcases ref_cases q with rfl | ⟨a, rfl⟩ <;> rfl
theorem own_ext_refl (h : Heap) : Ext h h := ⟨Nat.le_refl _, fun _ _ q => q⟩
theorem own_ext_trans {h0 h h' : Heap} (E : Ext h0 h) (E' : Ext h h') : Ext h0 h' := ⟨Nat.le_trans E.1 E'.1, fun a c q => E'.2 a c (E.2 a c q)⟩
theorem own_ext_eq {h0 h h' : Heap} (E : Ext h0 h) (q : h' = h) : Ext h0 h' := q ▸ E
theorem own_acVF {v w : Value} (q : v = w) : Jvm.Free.XT.acmp .ne v w = false := by subst q; simp [Jvm.Free.XT.acmp]
theorem own_ext_wr {h0 h h' : Heap} {a : Addr} {sl : Nat} {v : Value} (E : Ext h0 h) (W : Wr h h' a sl v) (q : h0.size ≤ a) : Ext h0 h' := by
  refine ⟨by rw [W.size]; exact E.1, fun x cx hx => ?_⟩
  obtain ⟨c', e1, -, -, -, e5, -⟩ := wr_at W (E.2 x cx hx)
  rw [← e5 (Nat.ne_of_lt (Nat.lt_of_lt_of_le (Array.getElem?_eq_some_iff.mp hx).1 q))]
  exact e1
theorem own_fld {t : Term} {a : Addr} {C n d : String} {k : Int32} (ev : t.eval args Z none [] Z = some (.ref a)) (w : (Jvm.Cond.eq (.field t C n d) (.int k)).value args Z none Z [] = some true) : Fld Z Z.heap a C n d (.int k) := by
  obtain ⟨x, y, e1, e2, k1, k2⟩ := cmp_v (Or.inl w)
  obtain rfl : y = .int k := (Option.some.inj e2).symm
  obtain ⟨z, rfl⟩ := k2
  have hz := gotT (Jvm.Cond.eq_ints e1 e2) w
  rw [fld_at ev] at e1
  rw [hz] at e1
  exact Fld.start e1
theorem own_len {t : Term} {a : Addr} {cl : Cell} {ty : FieldType} {k : Int32} (ev : t.eval args Z none [] Z = some (.ref a)) (A : Arr Z Z.heap a cl ty) (w : (Jvm.Cond.eq (.length t) (.int k)).value args Z none Z [] = some true) : cl.slots.size = k.toInt.toNat := by
  obtain ⟨x, y, e1, e2, k1, k2⟩ := cmp_v (Or.inl w)
  obtain rfl : y = .int k := (Option.some.inj e2).symm
  obtain ⟨z, rfl⟩ := k2
  have hz := gotT (Jvm.Cond.eq_ints e1 e2) w
  have hA : Z.arrayAt? a = some cl := Arr.fin (Vm.Alike.refl _) A
  by_cases hl : cl.slots.size < 2 ^ 31
  · rw [len_f ev hA hl] at e1
    have h1 : cl.slots.size.toInt32 = z := Value.int.inj (Option.some.inj e1)
    rw [← hz, ← h1, len_toInt hl]
    rfl
  · simp [Term.eval, ev, hA, hl] at e1
theorem own_elemI {t : Term} {a : Addr} {cl : Cell} {ty : FieldType} {j k : Int32} (ev : t.eval args Z none [] Z = some (.ref a)) (A : Arr Z Z.heap a cl ty) (w : (Jvm.Cond.eq (.elem t (.int j)) (.int k)).value args Z none Z [] = some true) : cl.slots[j.toNatClampNeg]? = some (.int k) := by
  obtain ⟨x, y, e1, e2, k1, k2⟩ := cmp_v (Or.inl w)
  obtain rfl : y = .int k := (Option.some.inj e2).symm
  obtain ⟨z, rfl⟩ := k2
  have hz := gotT (Jvm.Cond.eq_ints e1 e2) w
  rw [← hz]
  exact (elem_in e1 ev (Term.int_eval j) A.1).2
theorem own_elemR {t u : Term} {a b : Addr} {cl : Cell} {ty : FieldType} {j : Int32} (ev : t.eval args Z none [] Z = some (.ref a)) (A : Arr Z Z.heap a cl ty) (ev' : u.eval args Z none [] Z = some (.ref b)) (w : (Jvm.Cond.eq (.elem t (.int j)) u).value args Z none Z [] = some true) : cl.slots[j.toNatClampNeg]? = some (.ref b) := by
  obtain ⟨x, y, e1, e2, k1, k2⟩ := cmp_v (Or.inl w)
  obtain rfl : y = .ref b := (Option.some.inj (ev'.symm.trans e2)).symm
  have hz := gotT (eq_R e1 e2 k2.2 rfl) w
  rw [← hz]
  exact (elem_in e1 ev (Term.int_eval j) A.1).2
theorem own_neV {a b : Int32} (h : a ≠ b) : (Value.int a) ≠ Value.int b := fun q => h (Value.int.inj q)
theorem own_acT {a b : Addr} (h : a = b) : Jvm.Free.XT.acmp .eq (.ref a) (.ref b) = true := by subst h; simp [Jvm.Free.XT.acmp]
theorem own_acF {a b : Addr} (h : a ≠ b) : Jvm.Free.XT.acmp .eq (.ref a) (.ref b) = false := by simp [Jvm.Free.XT.acmp, h]
theorem own_acnT {a b : Addr} (h : a ≠ b) : Jvm.Free.XT.acmp .ne (.ref a) (.ref b) = true := by simp [Jvm.Free.XT.acmp, h]
theorem own_acnF {a b : Addr} (h : a = b) : Jvm.Free.XT.acmp .ne (.ref a) (.ref b) = false := by subst h; simp [Jvm.Free.XT.acmp]
theorem own_mask (x : Int32) : 0 ≤ (x &&& 2147483647).toInt := by
  have := Jvm.Kit.i32_mask x 2147483647 (k := 31) (by decide) (by decide)
  omega
theorem own_rem (y n : Int32) (h0 : 0 ≤ y.toInt) (hn : 0 < n.toInt) : 0 ≤ (y % n).toInt ∧ (y % n).toInt < n.toInt := by
  rw [Int32.toInt_mod]
  exact ⟨Int.tmod_nonneg _ h0, by
    have := Int.tmod_lt_of_pos y.toInt hn
    exact this⟩
end Own
end Jvm.Pilot.@@N@@

namespace Jvm.Pilot.@@N@@
open Jvm Jvm.ClassFile Sem Op Lib Jvm.Free Jvm.Stand Jvm.LawKit Jvm.RoadKit Bundle Jvm.Pilot.@@N@@.Jvm.D
section Lam
variable {p : Program} {l : Launch} {e : Env} {R : Room} {s : State} {m : MethodId} {args : Array Value} {below : List Frame} {meth : Method} {c : Code} {T : State} {locs : List Loc} {cells slots : Nat} {Z : State} {a0 : Array Value} {h : Heap}
/-- the shape of the one lambda, as the sheet's word says it; the class's name; the forwarder that the model's rule writes for it -/
abbrev own_K : String := "com/example/halyard/halyard/engine/OperandStack"
def own_sh : Lambda.Shape := Jvm.Lambda.Shape.mk "com/example/halyard/halyard/engine/Code" "run" (Jvm.ClassFile.MethodDescriptor.mk [.object "com/example/halyard/halyard/engine/Frame"] (some (.object "java/lang/Object"))) [.object "com/example/halyard/halyard/engine/OperandStack", .int, .int] 5 "com/example/halyard/halyard/engine/OperandStack" "lambda$operand$0" (Jvm.ClassFile.MethodDescriptor.mk [.int, .int, .object "com/example/halyard/halyard/engine/Frame"] (some (.object "java/lang/Object"))) false (Jvm.ClassFile.MethodDescriptor.mk [.object "com/example/halyard/halyard/engine/Frame"] (some (.object "java/lang/Object")))
def own_fc : ByteArray := ⟨#[0x2a, 0xb4, 0x00, 0x12, 0x2a, 0xb4, 0x00, 0x14, 0x2a, 0xb4, 0x00, 0x16, 0x2b, 0xb6, 0x00, 0x1e, 0xb0]⟩
theorem own_fok : Jvm.LamKit.fwdOK own_sh own_K own_fc 2 (some (.object "java/lang/Object")) 30 26 = true := by decide +kernel
theorem own_c0 : Jvm.LamKit.capOK own_sh own_K 18 0 = true := by decide +kernel
theorem own_c1 : Jvm.LamKit.capOK own_sh own_K 20 1 = true := by decide +kernel
theorem own_c2 : Jvm.LamKit.capOK own_sh own_K 22 2 = true := by decide +kernel
theorem own_f0 : decode own_fc 0 = .ok (.aload_n 0, 1) := by decide +kernel
theorem own_f1 : decode own_fc 1 = .ok (.getfield 18, 3) := by decide +kernel
theorem own_f4 : decode own_fc 4 = .ok (.aload_n 0, 1) := by decide +kernel
theorem own_f5 : decode own_fc 5 = .ok (.getfield 20, 3) := by decide +kernel
theorem own_f8 : decode own_fc 8 = .ok (.aload_n 0, 1) := by decide +kernel
theorem own_f9 : decode own_fc 9 = .ok (.getfield 22, 3) := by decide +kernel
theorem own_f12 : decode own_fc 12 = .ok (.aload_n 1, 1) := by decide +kernel
theorem own_f13 : decode own_fc 13 = .ok (.invokevirtual 30, 3) := by decide +kernel
theorem own_f16 : decode own_fc 16 = .ok (.areturn, 1) := by decide +kernel
theorem own_made {U : State} (hH : Z.WarmedH U.vm) {host : String} {σ : Lambda.Shape} {cK : ClassId} (hmd : Jvm.LamKit.Made Z host σ cK) : Jvm.LamKit.Made U host σ cK := by
  obtain ⟨d, dk, hd, hdn, hmade, hcan⟩ := hmd
  obtain ⟨dk', hd', he⟩ := hH.alike.2.2 _ _ hd
  refine ⟨d, dk', hd', by rw [he]; exact hdn, Lambda.isMade_warmer hH hmade, ?_⟩
  have hA := hH.alike
  simp only [State.lambdaCallable, hA.findClass, hA.assignable, hA.superclasses, hA.declaredIn] at hcan ⊢
  exact hcan
/-- the site in a body that was entered with warmer tables than the start's: a new object holds what it captures -/
theorem own_site (X : Stand p l e R s m args below meth c T locs cells slots) (hx : p.tables.exec = Jvm.exec) (hH : Z.WarmedH s.vm) {x : MethodName} {pc index fi : Nat} {σ : Lambda.Shape} (hnamed : s.methodNamed? x = some m)
    (hsite : (Jvm.Cond.lambdaSite x pc index σ).before a0 Z = true) (hcap : σ.captured ≠ []) (hok : Jvm.LamKit.capOK σ x.cls fi 0 = true) (hO : (Jvm.Cond.instantiable "java/lang/Object" 0).before a0 Z = true)
    {g : JFrame} (hg : g.method = m) (hpc : g.pc = pc) (hsize : g.locals.size = c.maxLocals) (hdg : decode c.code g.pc = .ok (.invokedynamic index, 5))
    {vals rest : List Value} (hlen : vals.length = σ.captured.length) (hstack : g.stack = vals.reverse ++ rest) (hfit : ∀ (i : Nat) t v, σ.captured[i]? = some t → vals[i]? = some v → narrow t v = v ∧ fits t v = true)
    (hwords : 2 * g.monitorRoom + (g.stack.map fun v => v.category).sum + 3072 ≤ R.locals) (hcells : cells + 1 ≤ R.cells) (hslots : slots + vals.length ≤ R.slots) :
    ∃ cK : ClassId, Jvm.LamKit.Made Z x.cls σ cK ∧ Stand p l e R s m args below meth c (T.pushCell { cls := cK, slots := vals.toArray, vm := .none }) locs (cells + 1) (slots + vals.length) ∧
      ∀ target, Steps p.tables e below ((T.pushCell { cls := cK, slots := vals.toArray, vm := .none }).setTop { g with pc := g.pc + 5, stack := .ref T.heap.size :: rest }) target → Steps p.tables e below (T.setTop g) target := by
  obtain ⟨cK, one, hat0⟩ := Jvm.Cond.lambdaSite_spec hsite
  obtain ⟨mE, kE, cfE, i0, p0, lk, hmE, hkE, hcfE, hsh, -, hfindE, hmadeE, hcanE, hl⟩ := State.lambdaAt?_spec hat0
  obtain ⟨kE', hkE', hnameE⟩ := className_of_methodNamed hmE
  cases hkE.symm.trans hkE'
  have hmD : s.methodNamed? x = some mE := (State.methodNamed?_setVm (s := Z) hH.alike x).trans hmE
  cases hnamed.symm.trans hmD
  obtain ⟨kD, hkD2, he⟩ := hH.alike.2.2 _ _ hkE
  have hcfD : kD.cf = some cfE := by rw [he]; exact hcfE
  have hfind : (kD.callSites.find? fun y => y.1 == m.idx && y.2.1 == pc) = some (i0, p0, lk) := by rw [he]; exact hfindE
  have hnameD : kD.name = x.cls := by rw [he]; exact hnameE
  have hmade := Lambda.isMade_warmer hH hmadeE
  rcases hl with ⟨a, cell, -, -, hc0, -⟩ | ⟨rfl, -, -⟩
  · exact absurd hc0 hcap
  · obtain ⟨b, nt, desc, site, h1, h2, h3, h4⟩ := Jvm.Lambda.shapeOf?_site hsh
    obtain ⟨kc, f, hkc, hkind, hty, -⟩ := Jvm.LamKit.made_cap hok hkD2 hnameD hmade (Jvm.LamKit.noFields hO hH)
    have hz : ((kc.instanceTypes.toList.zip vals).map fun (t, v) => narrow t v) = vals := by rw [hty]; exact Jvm.LamKit.zip_narrow _ _ hlen fun i t v a b => (hfit i t v a b).1
    have hw : e.platform.lambdaLinkWords = 3072 := by rw [X.admits.platform]
    have q := X.lambdaMakes hx hg hsize hdg (vals := vals) (rest := rest) hkD2 (by rw [hpc]; exact hfind) hcfD h1 h2 (parseLong_of_parse h3) (by rw [h4]; exact hlen) hstack hkc (by rw [hw]; exact hwords) hcells (by rw [hz]; exact hslots)
      (fun i v hv => by
        rw [hz] at hv
        have hv' : vals[i]? = some v := by simpa using hv
        have hi : i < σ.captured.length := by rw [← hlen]; exact (List.getElem?_eq_some_iff.mp hv').1
        have := (hfit i _ v (List.getElem?_eq_getElem hi) hv').2
        simp [State.fitsSlot, State.slotType?, hkc, hkind, hty, List.getElem?_eq_getElem hi, this])
    rw [hz] at q
    exact ⟨cK, ⟨_, kE, hkE, hnameE, hmadeE, hcanE⟩, by simpa using q.1, q.2⟩
abbrev own_xi : MethodName := ⟨"com/example/halyard/halyard/engine/Code", "run", "(Lcom/example/halyard/halyard/engine/Frame;)Ljava/lang/Object;"⟩
abbrev own_y : MethodName := ⟨own_K, "lambda$operand$0", "(IILcom/example/halyard/halyard/engine/Frame;)Ljava/lang/Object;"⟩
theorem own_ef (mk : MethodId) (a : Addr) : entryFrame mk #[.ref a, .null] 2 = mkF mk 0 #[.val (.ref a), .val .null] [] := by first | (simp [entryFrame, mkF, argsToLocals, Value.category]; done) | rfl
/-- run(null) on the function object: the call, the forwarder's loads, the private method behind it, and back -/
theorem own_lam (X : Stand p l e R s m args below meth c T locs cells slots) (hx : p.tables.exec = Jvm.exec) (hH : Z.WarmedH s.vm) {own : String} {index count : Nat} {bytes : ByteArray} {maxL : Nat} {zz : MethodName}
    (hown : s.vm.findClass own = some m.cls) (w1 : (Jvm.Cond.methodLink own index own_xi).before a0 Z = true) (w2 : (Jvm.Cond.declares own_xi).before a0 Z = true) (w3 : (Jvm.Cond.interfaceMethod own_xi.cls own_xi.cls own_xi.name own_xi.desc).before a0 Z = true)
    (w4 : (Jvm.Cond.instanceMethod own_y).before a0 Z = true) (w5 : (Jvm.Cond.privateMethod own_y).before a0 Z = true) (w6 : (Jvm.Cond.code own_y bytes maxL (some (.object "java/lang/Object"))).before a0 Z = true) (w7 : (Jvm.Cond.initialized own_y.cls).before a0 Z = true)
    (w8 : (Jvm.Cond.selects own_K zz zz).before a0 Z = true) (hzz : zz.cls = own_K) (wO : (Jvm.Cond.instantiable "java/lang/Object" 0).before a0 Z = true)
    {cK : ClassId} (hmd : Jvm.LamKit.Made Z own_K own_sh cK) {a s1 : Addr} {d i : Int32} (eT : T.heap = h) (hcell : h[a]? = some { cls := cK, slots := #[.ref s1, .int d, .int i], vm := .none }) {cellB : Cell} (hcB : h[s1]? = some cellB) (hobB : ∀ q, cellB.vm ≠ .statics q)
    {w : Value} (hw : w.isRef = true) {rm : Room} (hM : own_M l Z own_y bytes maxL (some (.object "java/lang/Object")) rm #[.ref s1, .int d, .int i, .null] h (fun v h' L => v = some w ∧ L = [] ∧ h' = h)) (hr1 : rm.cells = 0) (hr2 : rm.slots = 0)
    {g : JFrame} (hg : g.method = m) (hsize : g.locals.size = c.maxLocals) {rest : List Value} (hstack : g.stack = .null :: .ref a :: rest) (hdg : decode c.code g.pc = .ok (.invokeinterface index count, 5))
    (hfr : rm.frames + 2 ≤ R.frames) (hlo : 2 * g.monitorRoom + (rest.map fun v => v.category).sum + (2 + 11) + ((maxL + 11) + rm.locals) ≤ R.locals) (hcl : cells ≤ R.cells) (hsl : slots ≤ R.slots) :
    ∃ T' : State, Stand p l e R s m args below meth c T' locs cells slots ∧ T'.heap = h ∧ ∀ target, Steps p.tables e below (T'.setTop { g with pc := g.pc + 5, stack := w :: rest }) target → Steps p.tables e below (T.setTop g) target := by
  have hZ := hH.wide
  have hpoly : own_xi.cls ≠ "java/lang/invoke/MethodHandle" ∧ own_xi.cls ≠ "java/lang/invoke/VarHandle" := by decide
  have hpoly' : own_y.cls ≠ "java/lang/invoke/MethodHandle" ∧ own_y.cls ≠ "java/lang/invoke/VarHandle" := by decide
  have w3s : (Jvm.Cond.interfaceMethod own_xi.cls own_xi.cls own_xi.name own_xi.desc).before args s = true := mvT hZ w3
  have w2s : (Jvm.Cond.declares own_xi).before args s = true := mvT hZ w2
  obtain ⟨kK, methk, hkK, hmk, hpub, habs, hsel⟩ := Jvm.LamKit.madeSelects (own_made hH hmd) own_fok w3s ⟨rfl, rfl, by decide +kernel⟩
  obtain ⟨r0, r, hn, hrm, hstR, hsigR⟩ := Jvm.Cond.declares_spec w2s
  obtain ⟨cL, kL, r1, hcL, hkL, hiL, -, -⟩ := Jvm.Cond.interfaceMethod_spec w3s
  have hr0cls : r0.cls = cL := Option.some.inj ((findClass_of_methodNamed hn).symm.trans hcL)
  obtain ⟨hasg, hsel', hway⟩ := hsel r0 r hn hrm
  have hparX : parseMethodDescriptor own_xi.desc = some ⟨[.object "com/example/halyard/halyard/engine/Frame"], some (.object "java/lang/Object")⟩ := by decide +kernel
  obtain ⟨vm₁, X₁, hstep₁⟩ := X.invokeinterface hx hown (mvT hZ w1) hn hrm hstR (by rw [hr0cls]; exact hkL) hiL hpoly (a := a) (cell := { cls := cK, slots := #[.ref s1, .int d, .int i], vm := .none }) (kcell := kK) (by rw [eT]; exact hcell) (fun z q => by cases q) hkK hasg
    (m' := ⟨cK, 1⟩) (meth' := methk) (by rw [Launch.admits_selectMethod X.admits]; exact hsel') hmk hway hpub habs hg (argsL := [.null]) (rest := rest) (lenOf hparX rfl _ hsigR) hstack hdg
  have hW₁ : Z.WarmedH vm₁ := State.WarmedH.trans hH X₁.warmed
  obtain ⟨d1, dk1, hd1, hdn1, hmade1, -⟩ := own_made (U := T.setVm vm₁) hW₁ hmd
  obtain ⟨kK₁, tk₁, file₁, methk₁, ck₁, toy₁, t₁, nt, hkK₁, hpn₁, hfile₁, hidx₁, hnt₁, hmk₁, hck₁, hbytes₁, hml₁, hlk₁, -, hretk₁, htoy₁, htk₁, hlook₁, hready₁, hclsR₁⟩ := Jvm.LamKit.made_static own_fok hd1 hdn1 hmade1
  -- the target
  obtain ⟨mT, methT, hmT, hmethT, hstT, habT⟩ := Jvm.Cond.instanceMethod_spec w4
  obtain ⟨methT', cT, hmethT', hcT, -, hlocT, -, -, -, hsigT⟩ := Jvm.Cond.code_spec hmT w6
  cases hmethT.symm.trans hmethT'
  have hpriv : methT.isPrivate = true := Jvm.Cond.privateMethod_at w5 mT methT hmT hmethT
  obtain ⟨kT, hkT, hnameT⟩ := className_of_methodNamed hmT
  have hfT : Z.vm.findClass own_y.cls = some mT.cls := findClass_of_methodNamed hmT
  obtain ⟨c2, r2, m2, -, -, q3, -, kP, hkP, hkPi⟩ := Jvm.Cond.selects_spec w8
  have hm2 : m2.cls = mT.cls := by
    have q := findClass_of_methodNamed q3
    rw [hzz] at q
    exact Option.some.inj (q.symm.trans hfT)
  rw [hm2] at hkP
  cases hkT.symm.trans hkP
  have hfT₁ : (T.setVm vm₁).vm.findClass own_sh.implClass = some mT.cls := by
    show vm₁.findClass own_K = some mT.cls
    rw [hW₁.alike.findClass]; exact hfT
  cases htoy₁.symm.trans hfT₁
  have ht₁ : t₁ = mT := by
    have h1 : (Z.setVm vm₁).methodFound? own_y.cls own_y.name own_y.desc = some mT := by rw [State.methodFound?_setVm hW₁.alike]; exact State.methodFound?_of_named hmT hpoly'
    have e3 : own_sh.implDesc.toString = own_y.desc := by decide +kernel
    rw [e3] at hlook₁
    have hf2 : (Z.setVm vm₁).vm.findClass own_y.cls = some mT.cls := hfT₁
    have htk2 : (Z.setVm vm₁).vm.classes[mT.cls]? = some tk₁ := htk₁
    simp only [State.methodFound?, hf2, htk2, Option.bind_eq_bind, Option.bind_some] at h1
    have h2 : ((methodIn mT.cls own_y.name own_y.desc tk₁.isInterface none).ask { classPath := fun _ => none } (Z.setVm vm₁).vm).1 = .ok t₁ := hlook₁
    rw [h2] at h1
    exact Option.some.inj h1
  subst ht₁
  have hmethT₁ : vm₁.method? t₁ = some methT := by rw [hW₁.alike.method?]; exact hmethT
  obtain ⟨kT₁, hkT₁, heT₁⟩ := hW₁.alike.2.2 _ _ hkT
  have htk2 : vm₁.classes[t₁.cls]? = some tk₁ := htk₁
  cases htk2.symm.trans hkT₁
  have hif : tk₁.isInterface = false := by
    have q : tk₁.isInterface = kT.isInterface := by rw [heT₁]; rfl
    rw [q]; exact hkPi
  have hsp : ∀ z : Method, signaturePolymorphic tk₁ z = false := fun z => by
    have hn' : tk₁.name = own_y.cls := by rw [heT₁]; exact hnameT
    have h1 : tk₁.name ≠ "java/lang/invoke/MethodHandle" := by rw [hn']; exact hpoly'.1
    have h2 : tk₁.name ≠ "java/lang/invoke/VarHandle" := by rw [hn']; exact hpoly'.2
    simp [signaturePolymorphic, h1, h2]
  have hpk : (T.setVm vm₁).plainMethod ⟨cK, 1⟩ := State.plainMethod.of_name (fun k' hk' => by cases hkK₁.symm.trans hk'; exact hpn₁)
  obtain ⟨Y₀, hin⟩ := X₁.into (g := { g with stack := rest }) hg hsize hdg #[.ref a, .null] (R' := { frames := rm.frames + 1, cells := 0, slots := 0, locals := (maxL + 11) + rm.locals }) hmk₁ hck₁ hlk₁ hpk hfr (by rw [hml₁]; exact hlo) hcl hsl
  rw [hml₁, own_ef] at Y₀ hin
  generalize hU : ((T.setVm vm₁).setTop { g with stack := rest }).pushFrame (.java (mkF ⟨cK, 1⟩ 0 #[.val (.ref a), .val .null] [])) = U at Y₀ hin
  have hvmU : U.vm = vm₁ := by rw [← hU]; rfl
  have hheapU : U.heap = h := by rw [← hU]; exact eT
  generalize hs' : (T.setVm vm₁).calling { g with stack := rest } ⟨cK, 1⟩ #[.ref a, .null] = s' at Y₀
  have hvm' : s'.vm = vm₁ := by rw [← hs']; rfl
  have hWs' : Z.WarmedH s'.vm := by rw [hvm']; exact hW₁
  have hK := own_backOf (R := { frames := rm.frames + 1, cells := 0, slots := 0, locals := (maxL + 11) + rm.locals }) (p := p) (e := e) (below := .java { g with stack := rest } :: below) (s := s') (args := #[.ref a, .null]) (len := 3) (W := 0) hM hWs' w6 w7 (Nat.le_refl _) (by show 0 + (maxL + 11) + rm.locals ≤ (maxL + 11) + rm.locals; omega)
  have hnamedU : U.methodNamed? own_y = some t₁ := by
    have q : (Z.setVm vm₁).methodNamed? own_y = some t₁ := by rw [State.methodNamed?_setVm hW₁.alike]; exact hmT
    rw [← hU]; exact q
  obtain ⟨v, ⟨U', ls, cc, sl⟩, Y₁, ⟨L, ⟨rfl, rfl, e1⟩, hl, hcc, hss⟩, hsteps⟩ := hK ⟨cK, 1⟩ methk₁ ck₁ ⟨U, [], 0, 0⟩ (mkF ⟨cK, 1⟩ 13 #[.val (.ref a), .val .null] []) (.invokevirtual 30) t₁ #[.ref s1, .int d, .int i, .null] Y₀ rfl (by rw [hml₁]; rfl) (by rw [hbytes₁]; exact own_f13) (Nat.le_refl _) hnamedU
    ⟨rfl, hheapU, by show 0 + rm.cells ≤ 0; omega, by show 0 + rm.slots ≤ 0; omega⟩
  dsimp only [Pt.U, Pt.locs, Pt.cells, Pt.slots] at Y₁ e1 hl hcc hss hsteps
  subst hl; subst hcc; subst hss
  obtain ⟨fs, hleave, -, hended, hWe, hsame⟩ := Y₁.leave (v := some w) (fun q => by rw [hretk₁] at q; cases q) hlk₁
  subst hs'
  obtain ⟨T', X', -, -, ht⟩ := X₁.outOf (g := { g with stack := rest }) hg hdg hended hWe hsame
  have hheap' : T'.heap = h := by
    have q : (U'.setFrames fs).heap = (T'.setTop { g with pc := g.pc + 5, stack := w :: rest }).heap := congrArg State.heap ht
    exact (show T'.heap = U'.heap from q.symm).trans e1
  refine ⟨T', by simpa [hr1, hr2] using X', hheap', fun target k => hstep₁ _ fun acts => ?_⟩
  have hin' := hin acts
  refine Steps.trans ?_ k
  show Steps p.tables e below (doInvoke e ((T.setVm vm₁).setTop { g with stack := rest }) acts ⟨cK, 1⟩ #[.ref a, .null]).1 _
  rw [hin']
  have ht' : U'.setFrames fs = T'.setTop { g with pc := g.pc + 5, stack := w :: rest } := ht
  rw [← ht']
  refine Steps.weaken (mid := [.java { g with stack := rest }]) ?_
  have hWU : Z.WarmedH U.vm := by rw [hvmU]; exact hW₁
  have hcU : U.heap[a]? = some { cls := cK, slots := #[.ref s1, .int d, .int i], vm := .none } := by rw [hheapU]; exact hcell
  show Steps p.tables e (.java { g with stack := rest } :: below) (U.setTop (mkF ⟨cK, 1⟩ 0 #[.val (.ref a), .val .null] [])) _
  refine XS.aloadN Y₀.here hx rfl (hb hbytes₁ own_f0) rfl rfl ?_
  show Steps p.tables e (.java { g with stack := rest } :: below) (U.setTop (mkF ⟨cK, 1⟩ 1 #[.val (.ref a), .val .null] [(.ref a)])) _
  refine Jvm.LamKit.getCap (s := Z) hx Y₀.here hWU hmd own_c0 wO hcU rfl (v := .ref s1) rfl rfl rfl (hb hbytes₁ own_f1) ?_
  show Steps p.tables e (.java { g with stack := rest } :: below) (U.setTop (mkF ⟨cK, 1⟩ 4 #[.val (.ref a), .val .null] [(.ref s1)])) _
  refine XS.aloadN Y₀.here hx rfl (hb hbytes₁ own_f4) rfl rfl ?_
  show Steps p.tables e (.java { g with stack := rest } :: below) (U.setTop (mkF ⟨cK, 1⟩ 5 #[.val (.ref a), .val .null] [(.ref a), (.ref s1)])) _
  refine Jvm.LamKit.getCap (s := Z) hx Y₀.here hWU hmd own_c1 wO hcU rfl (v := .int d) rfl rfl rfl (hb hbytes₁ own_f5) ?_
  show Steps p.tables e (.java { g with stack := rest } :: below) (U.setTop (mkF ⟨cK, 1⟩ 8 #[.val (.ref a), .val .null] [(.int d), (.ref s1)])) _
  refine XS.aloadN Y₀.here hx rfl (hb hbytes₁ own_f8) rfl rfl ?_
  show Steps p.tables e (.java { g with stack := rest } :: below) (U.setTop (mkF ⟨cK, 1⟩ 9 #[.val (.ref a), .val .null] [(.ref a), (.int d), (.ref s1)])) _
  refine Jvm.LamKit.getCap (s := Z) hx Y₀.here hWU hmd own_c2 wO hcU rfl (v := .int i) rfl rfl rfl (hb hbytes₁ own_f9) ?_
  show Steps p.tables e (.java { g with stack := rest } :: below) (U.setTop (mkF ⟨cK, 1⟩ 12 #[.val (.ref a), .val .null] [(.int i), (.int d), (.ref s1)])) _
  refine XS.aloadN Y₀.here hx rfl (hb hbytes₁ own_f12) rfl rfl ?_
  show Steps p.tables e (.java { g with stack := rest } :: below) (U.setTop (mkF ⟨cK, 1⟩ 13 #[.val (.ref a), .val .null] [.null, (.int i), (.int d), (.ref s1)])) _
  have hsU : U.topJava?.isSome := Y₀.here.top
  have hparY : parseMethodDescriptor own_y.desc = some ⟨[.int, .int, .object "com/example/halyard/halyard/engine/Frame"], some (.object "java/lang/Object")⟩ := by decide +kernel
  have hnam : namesAClass U cK 30 := ⟨kK₁, file₁, 26, nt, t₁.cls, tk₁, by rw [hvmU]; exact hkK₁, hfile₁, hidx₁, by rw [hvmU]; exact hclsR₁, by rw [hvmU]; exact htk₁, hif⟩
  have hd13 : decode ck₁.code 13 = .ok (.invokevirtual 30, 3) := by rw [hbytes₁]; exact own_f13
  jvm_step Y₀.here [hx, hd13, invokevirtual.wp_ready (e := e) (s := U) (r := t₁) (m := t₁) (k := tk₁) (mk := tk₁) (rmeth := methT) (meth := methT) (a := s1) (args := [.int d, .int i, .null]) (rest := []) (cell := cellB)
    (f := mkF ⟨cK, 1⟩ 13 #[.val (.ref a), .val .null] [.null, (.int i), (.int d), (.ref s1)]) hsU hnam (by rw [hvmU]; exact hready₁) (by rw [hvmU]; exact htk₁) (by rw [hvmU]; exact hmethT₁) (hsp _) hstT (lenOf hparY rfl _ hsigT) rfl
    (by rw [hheapU]; exact hcB) hobB (by rw [hvmU]; exact selectMethod_private hmethT₁ hpriv) (by rw [hvmU]; exact hmethT₁) habT (by rw [hvmU]; exact htk₁) hif]
  intro acts'
  rw [doInvoke_state]
  refine hsteps.trans ?_
  exact Jvm.RoadKit.retOut Y₁ hx hretk₁ (own_narrow hw) (Or.inr (Or.inr (Or.inr (Or.inr ⟨rfl, rfl, hw⟩)))) (hb hbytes₁ own_f16) hleave
end Lam
end Jvm.Pilot.@@N@@
namespace Jvm.Pilot.@@N@@
open Jvm Jvm.ClassFile Sem Op Lib Jvm.Free Jvm.Stand Jvm.LawKit Jvm.RoadKit Bundle Jvm.Pilot.@@N@@.Jvm.D
section Stk
variable {p : Program} {l : Launch} {e : Env} {R : Room} {s : State} {m : MethodId} {args : Array Value} {below : List Frame} {meth : Method} {c : Code} {T : State} {locs : List Loc} {cells slots : Nat} {Z : State} {a0 : Array Value} {h h' : Heap}
/-- the stack at s1: its array at ar, its size, the array's first four places -/
def own_ST (Z : State) (h : Heap) (s1 ar : Addr) (n : Int32) (v0 v1 v2 v3 : Value) : Prop :=
  Exa Z h s1 own_K ∧ Fld Z h s1 own_K "values" "[Ljava/lang/Object;" (.ref ar) ∧ Fld Z h s1 own_K "size" "I" (.int n) ∧ s1 ≠ ar ∧ ∃ cl : Cell, Arr Z h ar cl (.object "java/lang/Object") ∧ Ovr Z cl.cls "java/lang/Object" ∧ cl.slots.size = 64 ∧ cl.slots[0]? = some v0 ∧ cl.slots[1]? = some v1 ∧ cl.slots[2]? = some v2 ∧ cl.slots[3]? = some v3
theorem own_ST_ext {s1 ar : Addr} {n : Int32} {v0 v1 v2 v3 : Value} (E : Ext h h') (S : own_ST Z h s1 ar n v0 v1 v2 v3) : own_ST Z h' s1 ar n v0 v1 v2 v3 := by
  obtain ⟨h1, h2, h3, h4, cl, h5, r⟩ := S
  exact ⟨h1.ext E, h2.ext E, h3.ext E, h4, cl, h5.ext E, r⟩
theorem own_ST_sto {s1 ar y : Addr} {n : Int32} {v0 v1 v2 v3 : Value} (S : own_ST Z h s1 ar n v0 v1 v2 v3) (I : Ins Z h y "java/lang/Object" true) : Sto Z h ar (.ref y) := by
  obtain ⟨-, -, -, -, cl, A, O, -⟩ := S
  exact Sto.of A O I
theorem own_ST_cell {s1 ar : Addr} {n : Int32} {v0 v1 v2 v3 : Value} (S : own_ST Z h s1 ar n v0 v1 v2 v3) : ∃ cellB : Cell, h[s1]? = some cellB ∧ ∀ q, cellB.vm ≠ .statics q := by
  obtain ⟨⟨cellB, kB, h1, -, -, h4, -⟩, -⟩ := S
  exact ⟨cellB, h1, fun q z => by rw [z] at h4; cases h4⟩
theorem own_hit {cl : Cell} {k : Nat} {v : Value} (hsz : cl.slots.size = 64) (hk : k < 64) : (cl.setSlot k v).slots[k]? = some v := by simp [Cell.setSlot, hsz, hk]
theorem own_miss {cl : Cell} {i k : Nat} {v w : Value} (hw : cl.slots[i]? = some w) (q : i ≠ k) : (cl.setSlot k v).slots[i]? = some w := by
  rw [← hw]
  exact Array.getElem?_setIfInBounds_ne (Ne.symm q)
theorem own_ext_keep {hb : Heap} {ws : List Addr} (E : Ext hb h) (K : Keep h h' ws) (q : ∀ x ∈ ws, hb.size ≤ x) : Ext hb h' := ⟨Nat.le_trans E.1 K.1, fun a c r => K.2.1 a c (E.2 a c r) (fun z => absurd (Array.getElem?_eq_some_iff.mp r).1 (Nat.not_lt.mpr (q a z)))⟩
theorem own_ext_push (h : Heap) (c : Cell) : Ext h (h.push c) := ext_of fun a q => Array.getElem?_push_lt q |>.trans (Array.getElem?_eq_getElem q).symm
theorem own_push_at (h : Heap) (c : Cell) : (h.push c)[h.size]? = some c := by simp
theorem own_fit (s1 : Addr) (d i : Int32) : ∀ (k : Nat) t v, own_sh.captured[k]? = some t → ([.ref s1, .int d, .int i] : List Value)[k]? = some v → narrow t v = v ∧ fits t v = true := by
  intro k t v h1 h2
  match k, h1, h2 with
  | 0, h1, h2 => cases h1; cases h2; exact ⟨rfl, rfl⟩
  | 1, h1, h2 => cases h1; cases h2; exact ⟨rfl, rfl⟩
  | 2, h1, h2 => cases h1; cases h2; exact ⟨rfl, rfl⟩
  | k + 3, h1, h2 => simp [own_sh] at h1
end Stk
end Jvm.Pilot.@@N@@
namespace Jvm.Pilot.@@N@@
open Jvm Jvm.ClassFile Sem Op Lib Jvm.Free Jvm.Stand Jvm.LawKit Jvm.RoadKit Bundle Jvm.Pilot.@@N@@.Jvm.D
def own_B (Z : State) (h : Heap) (ac : Addr) (clc : Cell) : Prop := Sta Z h "java/lang/Integer$IntegerCache" "high" "I" (.int (127 : Int32)) ∧ Sta Z h "java/lang/Integer$IntegerCache" "cache" "[Ljava/lang/Integer;" (.ref ac) ∧ Arr Z h ac clc (.object "java/lang/Integer") ∧ clc.slots.size = 256 ∧ (∀ i, i < 256 → ∃ r, clc.slots[i]? = some (.ref r) ∧ Exa Z h r "java/lang/Integer")
theorem own_B_ext {Z : State} {h h' : Heap} {ac : Addr} {clc : Cell} (E : Ext h h') (B : own_B Z h ac clc) : own_B Z h' ac clc := by
  obtain ⟨S_h, S_c, A_c, Z_c, H_c⟩ := B
  exact ⟨S_h.ext E, S_c.ext E, A_c.ext E, Z_c, (fun i hi => by obtain ⟨r, q1, q2⟩ := H_c i hi; exact ⟨r, q1, q2.ext E⟩)⟩
theorem own_cache {Z : State} {args : Array Value} {ac : Addr} {cl : Cell} (ev : (Jvm.Term.static "java/lang/Integer$IntegerCache" "cache" "[Ljava/lang/Integer;").eval args Z none [] Z = some (.ref ac)) (A : Arr Z Z.heap ac cl (.object "java/lang/Integer")) (hsz : cl.slots.size = 256)
    (w : (Jvm.Cond.all (Jvm.Term.static "java/lang/Integer$IntegerCache" "cache" "[Ljava/lang/Integer;") (.and (.exactly (.elem (Jvm.Term.static "java/lang/Integer$IntegerCache" "cache" "[Ljava/lang/Integer;") (.index 0)) "java/lang/Integer") (.eq (.field (.elem (Jvm.Term.static "java/lang/Integer$IntegerCache" "cache" "[Ljava/lang/Integer;") (.index 0)) "java/lang/Integer" "value" "I") (.sub (.index 0) (.int 128))))).value args Z none Z [] = some true) :
    ∀ i, i < 256 → ∃ r, cl.slots[i]? = some (.ref r) ∧ Exa Z Z.heap r "java/lang/Integer" ∧ Fld Z Z.heap r "java/lang/Integer" "value" "I" (.int (i.toInt32 - 128)) := by
  intro i hi
  have hA : Z.arrayAt? ac = some cl := Arr.fin (Vm.Alike.refl _) A
  obtain ⟨q1, q2⟩ := and_e (Jvm.Cond.all_elim ev hA w i (by rw [hsz]; exact hi))
  obtain ⟨r, er⟩ := exa_v q1
  have ej : (Jvm.Term.index 0).eval args Z none [i] Z = some (.int i.toInt32) := Term.index_eval _
  have hj := (elem_in er (by exact ev) ej A.1).2
  have hi2 : i.toInt32.toNatClampNeg = i := by
    have : i.toInt32.toInt = i := len_toInt (by omega)
    show i.toInt32.toInt.toNat = i
    rw [this]; rfl
  rw [hi2] at hj
  refine ⟨r, hj, exa_at er q1, ?_⟩
  obtain ⟨x, y, e1, e2, k1, k2⟩ := cmp_v (Or.inl q2)
  have e3 : (Jvm.Term.sub (.index 0) (.int 128)).eval args Z none [i] Z = some (.int (i.toInt32 - 128)) := by simp [Term.eval]
  obtain rfl : y = .int (i.toInt32 - 128) := Option.some.inj (e2.symm.trans e3)
  obtain ⟨z, rfl⟩ := k2
  have hz := gotT (Jvm.Cond.eq_ints e1 e2) q2
  rw [fld_at er, hz] at e1
  exact Fld.start e1
theorem d2_0 : decode prog_114_method_1_code 0 = .ok (.aload_n 0, 1) := by decide +kernel
theorem d2_1 : decode prog_114_method_1_code 1 = .ok (.invokespecial 1, 3) := by decide +kernel
theorem d2_4 : decode prog_114_method_1_code 4 = .ok (.aload_n 0, 1) := by decide +kernel
theorem d2_5 : decode prog_114_method_1_code 5 = .ok (.bipush 64, 2) := by decide +kernel
theorem d2_7 : decode prog_114_method_1_code 7 = .ok (.anewarray 2, 3) := by decide +kernel
theorem d2_10 : decode prog_114_method_1_code 10 = .ok (.putfield 7, 3) := by decide +kernel
theorem d2_13 : decode prog_114_method_1_code 13 = .ok (.return_, 1) := by decide +kernel
theorem pn_2 : plainFor (⟨"com/example/halyard/halyard/engine/OperandStack", "<init>", "()V"⟩ : MethodName) = true := by first | exact plainFor_of_name (by first | (simp [plainName, overriddenIn]; done) | decide +kernel) | decide +kernel
theorem d4_0 : decode prog_114_method_2_code 0 = .ok (.aload_n 0, 1) := by decide +kernel
theorem d4_1 : decode prog_114_method_2_code 1 = .ok (.getfield 13, 3) := by decide +kernel
theorem d4_4 : decode prog_114_method_2_code 4 = .ok (.aload_n 0, 1) := by decide +kernel
theorem d4_5 : decode prog_114_method_2_code 5 = .ok (.getfield 7, 3) := by decide +kernel
theorem d4_8 : decode prog_114_method_2_code 8 = .ok (.arraylength, 1) := by decide +kernel
theorem d4_9 : decode prog_114_method_2_code 9 = .ok (.if_icmp .ne 20, 3) := by decide +kernel
theorem d4_12 : decode prog_114_method_2_code 12 = .ok (.aload_n 0, 1) := by decide +kernel
theorem d4_13 : decode prog_114_method_2_code 13 = .ok (.aload_n 0, 1) := by decide +kernel
theorem d4_14 : decode prog_114_method_2_code 14 = .ok (.getfield 7, 3) := by decide +kernel
theorem d4_17 : decode prog_114_method_2_code 17 = .ok (.aload_n 0, 1) := by decide +kernel
theorem d4_18 : decode prog_114_method_2_code 18 = .ok (.getfield 13, 3) := by decide +kernel
theorem d4_21 : decode prog_114_method_2_code 21 = .ok (.iconst 2, 1) := by decide +kernel
theorem d4_22 : decode prog_114_method_2_code 22 = .ok (.imul, 1) := by decide +kernel
theorem d4_23 : decode prog_114_method_2_code 23 = .ok (.invokestatic 17, 3) := by decide +kernel
theorem d4_26 : decode prog_114_method_2_code 26 = .ok (.putfield 7, 3) := by decide +kernel
theorem d4_29 : decode prog_114_method_2_code 29 = .ok (.aload_n 0, 1) := by decide +kernel
theorem d4_30 : decode prog_114_method_2_code 30 = .ok (.getfield 7, 3) := by decide +kernel
theorem d4_33 : decode prog_114_method_2_code 33 = .ok (.aload_n 0, 1) := by decide +kernel
theorem d4_34 : decode prog_114_method_2_code 34 = .ok (.dup, 1) := by decide +kernel
theorem d4_35 : decode prog_114_method_2_code 35 = .ok (.getfield 13, 3) := by decide +kernel
theorem d4_38 : decode prog_114_method_2_code 38 = .ok (.dup_x1, 1) := by decide +kernel
theorem d4_39 : decode prog_114_method_2_code 39 = .ok (.iconst 1, 1) := by decide +kernel
theorem d4_40 : decode prog_114_method_2_code 40 = .ok (.iadd, 1) := by decide +kernel
theorem d4_41 : decode prog_114_method_2_code 41 = .ok (.putfield 13, 3) := by decide +kernel
theorem d4_44 : decode prog_114_method_2_code 44 = .ok (.aload_n 1, 1) := by decide +kernel
theorem d4_45 : decode prog_114_method_2_code 45 = .ok (.aastore, 1) := by decide +kernel
theorem d4_46 : decode prog_114_method_2_code 46 = .ok (.return_, 1) := by decide +kernel
theorem pn_4 : plainFor (⟨"com/example/halyard/halyard/engine/OperandStack", "push", "(Ljava/lang/Object;)V"⟩ : MethodName) = true := by first | exact plainFor_of_name (by first | (simp [plainName, overriddenIn]; done) | decide +kernel) | decide +kernel
theorem d6_0 : decode prog_114_method_4_code 0 = .ok (.iconst 0, 1) := by decide +kernel
theorem d6_1 : decode prog_114_method_4_code 1 = .ok (.istore_n 2, 1) := by decide +kernel
theorem d6_2 : decode prog_114_method_4_code 2 = .ok (.iload_n 2, 1) := by decide +kernel
theorem d6_3 : decode prog_114_method_4_code 3 = .ok (.iload_n 1, 1) := by decide +kernel
theorem d6_4 : decode prog_114_method_4_code 4 = .ok (.if_icmp .ge 26, 3) := by decide +kernel
theorem d6_7 : decode prog_114_method_4_code 7 = .ok (.aload_n 0, 1) := by decide +kernel
theorem d6_8 : decode prog_114_method_4_code 8 = .ok (.getfield 7, 3) := by decide +kernel
theorem d6_11 : decode prog_114_method_4_code 11 = .ok (.aload_n 0, 1) := by decide +kernel
theorem d6_12 : decode prog_114_method_4_code 12 = .ok (.dup, 1) := by decide +kernel
theorem d6_13 : decode prog_114_method_4_code 13 = .ok (.getfield 13, 3) := by decide +kernel
theorem d6_16 : decode prog_114_method_4_code 16 = .ok (.iconst 1, 1) := by decide +kernel
theorem d6_17 : decode prog_114_method_4_code 17 = .ok (.isub, 1) := by decide +kernel
theorem d6_18 : decode prog_114_method_4_code 18 = .ok (.dup_x1, 1) := by decide +kernel
theorem d6_19 : decode prog_114_method_4_code 19 = .ok (.putfield 13, 3) := by decide +kernel
theorem d6_22 : decode prog_114_method_4_code 22 = .ok (.aconst_null, 1) := by decide +kernel
theorem d6_23 : decode prog_114_method_4_code 23 = .ok (.aastore, 1) := by decide +kernel
theorem d6_24 : decode prog_114_method_4_code 24 = .ok (.iinc 2 1, 3) := by decide +kernel
theorem d6_27 : decode prog_114_method_4_code 27 = .ok (.goto (-25), 3) := by decide +kernel
theorem d6_30 : decode prog_114_method_4_code 30 = .ok (.return_, 1) := by decide +kernel
theorem pn_6 : plainFor (⟨"com/example/halyard/halyard/engine/OperandStack", "drop", "(I)V"⟩ : MethodName) = true := by first | exact plainFor_of_name (by first | (simp [plainName, overriddenIn]; done) | decide +kernel) | decide +kernel
theorem d5_0 : decode prog_114_method_3_code 0 = .ok (.aload_n 0, 1) := by decide +kernel
theorem d5_1 : decode prog_114_method_3_code 1 = .ok (.getfield 7, 3) := by decide +kernel
theorem d5_4 : decode prog_114_method_3_code 4 = .ok (.aload_n 0, 1) := by decide +kernel
theorem d5_5 : decode prog_114_method_3_code 5 = .ok (.getfield 13, 3) := by decide +kernel
theorem d5_8 : decode prog_114_method_3_code 8 = .ok (.iconst 1, 1) := by decide +kernel
theorem d5_9 : decode prog_114_method_3_code 9 = .ok (.isub, 1) := by decide +kernel
theorem d5_10 : decode prog_114_method_3_code 10 = .ok (.aaload, 1) := by decide +kernel
theorem d5_11 : decode prog_114_method_3_code 11 = .ok (.astore_n 1, 1) := by decide +kernel
theorem d5_12 : decode prog_114_method_3_code 12 = .ok (.aload_n 0, 1) := by decide +kernel
theorem d5_13 : decode prog_114_method_3_code 13 = .ok (.iconst 1, 1) := by decide +kernel
theorem d5_14 : decode prog_114_method_3_code 14 = .ok (.invokevirtual 23, 3) := by decide +kernel
theorem d5_17 : decode prog_114_method_3_code 17 = .ok (.aload_n 1, 1) := by decide +kernel
theorem d5_18 : decode prog_114_method_3_code 18 = .ok (.areturn, 1) := by decide +kernel
theorem pn_5 : plainFor (⟨"com/example/halyard/halyard/engine/OperandStack", "pop", "()Ljava/lang/Object;"⟩ : MethodName) = true := by first | exact plainFor_of_name (by first | (simp [plainName, overriddenIn]; done) | decide +kernel) | decide +kernel
theorem d8_0 : decode prog_114_method_6_code 0 = .ok (.aload_n 0, 1) := by decide +kernel
theorem d8_1 : decode prog_114_method_6_code 1 = .ok (.getfield 7, 3) := by decide +kernel
theorem d8_4 : decode prog_114_method_6_code 4 = .ok (.aload_n 0, 1) := by decide +kernel
theorem d8_5 : decode prog_114_method_6_code 5 = .ok (.getfield 13, 3) := by decide +kernel
theorem d8_8 : decode prog_114_method_6_code 8 = .ok (.iload_n 1, 1) := by decide +kernel
theorem d8_9 : decode prog_114_method_6_code 9 = .ok (.isub, 1) := by decide +kernel
theorem d8_10 : decode prog_114_method_6_code 10 = .ok (.iload_n 2, 1) := by decide +kernel
theorem d8_11 : decode prog_114_method_6_code 11 = .ok (.iadd, 1) := by decide +kernel
theorem d8_12 : decode prog_114_method_6_code 12 = .ok (.aaload, 1) := by decide +kernel
theorem d8_13 : decode prog_114_method_6_code 13 = .ok (.areturn, 1) := by decide +kernel
theorem pn_8 : plainFor (⟨"com/example/halyard/halyard/engine/OperandStack", "lambda$operand$0", "(IILcom/example/halyard/halyard/engine/Frame;)Ljava/lang/Object;"⟩ : MethodName) = true := by first | exact plainFor_of_name (by first | (simp [plainName, overriddenIn]; done) | decide +kernel) | decide +kernel
theorem d7_0 : decode prog_114_method_5_code 0 = .ok (.aload_n 0, 1) := by decide +kernel
theorem d7_1 : decode prog_114_method_5_code 1 = .ok (.iload_n 2, 1) := by decide +kernel
theorem d7_2 : decode prog_114_method_5_code 2 = .ok (.iload_n 1, 1) := by decide +kernel
theorem d7_3 : decode prog_114_method_5_code 3 = .ok (.invokedynamic 27, 5) := by decide +kernel
theorem d7_8 : decode prog_114_method_5_code 8 = .ok (.areturn, 1) := by decide +kernel
theorem pn_7 : plainFor (⟨"com/example/halyard/halyard/engine/OperandStack", "operand", "(II)Lcom/example/halyard/halyard/engine/Code;"⟩ : MethodName) = true := by first | exact plainFor_of_name (by first | (simp [plainName, overriddenIn]; done) | decide +kernel) | decide +kernel
theorem d1_0 : decode jdk_33_method_22_code 0 = .ok (.iload_n 0, 1) := by decide +kernel
theorem d1_1 : decode jdk_33_method_22_code 1 = .ok (.bipush (-128), 2) := by decide +kernel
theorem d1_3 : decode jdk_33_method_22_code 3 = .ok (.if_icmp .lt 20, 3) := by decide +kernel
theorem d1_6 : decode jdk_33_method_22_code 6 = .ok (.iload_n 0, 1) := by decide +kernel
theorem d1_7 : decode jdk_33_method_22_code 7 = .ok (.getstatic 191, 3) := by decide +kernel
theorem d1_10 : decode jdk_33_method_22_code 10 = .ok (.if_icmp .gt 13, 3) := by decide +kernel
theorem d1_13 : decode jdk_33_method_22_code 13 = .ok (.getstatic 195, 3) := by decide +kernel
theorem d1_16 : decode jdk_33_method_22_code 16 = .ok (.iload_n 0, 1) := by decide +kernel
theorem d1_17 : decode jdk_33_method_22_code 17 = .ok (.sipush 128, 3) := by decide +kernel
theorem d1_20 : decode jdk_33_method_22_code 20 = .ok (.iadd, 1) := by decide +kernel
theorem d1_21 : decode jdk_33_method_22_code 21 = .ok (.aaload, 1) := by decide +kernel
theorem d1_22 : decode jdk_33_method_22_code 22 = .ok (.areturn, 1) := by decide +kernel
theorem d1_23 : decode jdk_33_method_22_code 23 = .ok (.new 1, 3) := by decide +kernel
theorem d1_26 : decode jdk_33_method_22_code 26 = .ok (.dup, 1) := by decide +kernel
theorem d1_27 : decode jdk_33_method_22_code 27 = .ok (.iload_n 0, 1) := by decide +kernel
theorem d1_28 : decode jdk_33_method_22_code 28 = .ok (.invokespecial 199, 3) := by decide +kernel
theorem d1_31 : decode jdk_33_method_22_code 31 = .ok (.areturn, 1) := by decide +kernel
theorem pn_1 : plainFor (⟨"java/lang/Integer", "valueOf", "(I)Ljava/lang/Integer;"⟩ : MethodName) = true := by first | exact plainFor_of_name (by first | (simp [plainName, overriddenIn]; done) | decide +kernel) | decide +kernel
theorem d9_0 : decode jdk_33_method_23_code 0 = .ok (.aload_n 0, 1) := by decide +kernel
theorem d9_1 : decode jdk_33_method_23_code 1 = .ok (.invokespecial 202, 3) := by decide +kernel
theorem d9_4 : decode jdk_33_method_23_code 4 = .ok (.aload_n 0, 1) := by decide +kernel
theorem d9_5 : decode jdk_33_method_23_code 5 = .ok (.iload_n 1, 1) := by decide +kernel
theorem d9_6 : decode jdk_33_method_23_code 6 = .ok (.putfield 205, 3) := by decide +kernel
theorem d9_9 : decode jdk_33_method_23_code 9 = .ok (.return_, 1) := by decide +kernel
theorem pn_9 : plainFor (⟨"java/lang/Integer", "<init>", "(I)V"⟩ : MethodName) = true := by first | exact plainFor_of_name (by first | (simp [plainName, overriddenIn]; done) | decide +kernel) | decide +kernel
theorem d10_0 : decode jdk_18_method_1_code 0 = .ok (.aload_n 0, 1) := by decide +kernel
theorem d10_1 : decode jdk_18_method_1_code 1 = .ok (.invokespecial 1, 3) := by decide +kernel
theorem d10_4 : decode jdk_18_method_1_code 4 = .ok (.return_, 1) := by decide +kernel
theorem pn_10 : plainFor (⟨"java/lang/Number", "<init>", "()V"⟩ : MethodName) = true := by first | exact plainFor_of_name (by first | (simp [plainName, overriddenIn]; done) | decide +kernel) | decide +kernel
set_option maxRecDepth 65536 in
set_option maxHeartbeats 40000000 in
theorem c_init (l : Launch) (Z : State) (a0 : Array Value) (hw : ∀ d ∈ tables_1, d.before a0 Z = true) (s1 : Addr) (h0 : Heap) (n0 : Nat) (Z0 : n0 ≤ h0.size) (E1 : Exa Z h0 s1 own_K) (F1 : Fld Z h0 s1 own_K "values" "[Ljava/lang/Object;" .null) (F2 : Fld Z h0 s1 own_K "size" "I" (.int (0 : Int32))) (g1 : n0 ≤ s1) :
    own_M l Z (⟨"com/example/halyard/halyard/engine/OperandStack", "<init>", "()V"⟩ : MethodName) prog_114_method_1_code 1 none ⟨1, 1, 64, 16⟩ #[.ref s1] h0 (fun v h L => v = none ∧ Fr n0 L ∧ Keep h0 h [s1] ∧ own_ST Z h s1 h0.size (0 : Int32) .null .null .null .null) := by
  refine own_body pn_2 ?_
  intro p e s m below meth c T0 hx hby hml hlk hown hret hnm hH hnamed X0 e0
  have hZ := hH.wide
  replace hown : s.vm.findClass "com/example/halyard/halyard/engine/OperandStack" = some m.cls := hown
  replace hml : c.maxLocals = 1 := hml
  have N0 := Fr.nil n0
  have ef : entryFrame m #[.ref s1] 1 = (mkF m 0 #[.val (.ref s1)] []) := by first | (simp [entryFrame, mkF, argsToLocals, Value.category]; done) | rfl
  rw [ef]
  refine own_go (fun t k => XS.aloadN X0.here hx rfl (hb hby d2_0) rfl rfl k) ?_
  show own_G p e below _ T0 (mkF m 1 #[.val (.ref s1)] [(.ref s1)])
  obtain ⟨T1, X1, e1, st1⟩ := initO X0 hx hZ hown (hw _ (List.mem_of_getElem? (i := 13) rfl)) (hw _ (List.mem_of_getElem? (i := 14) rfl)) (hw _ (List.mem_of_getElem? (i := 15) rfl)) e0 (g := (mkF m 1 #[.val (.ref s1)] [(.ref s1)])) rfl (by rw [hml]; rfl) rfl (hb hby d2_1) (by decide) (W := 0) (by show 2 * 0 + _ ≤ _; exact Nat.le_of_eq rfl) (by decide)
  refine own_go st1 ?_
  show own_G p e below _ T1 (mkF m 4 #[.val (.ref s1)] [])
  refine own_go (fun t k => XS.aloadN X1.here hx rfl (hb hby d2_4) rfl rfl k) ?_
  show own_G p e below _ T1 (mkF m 5 #[.val (.ref s1)] [(.ref s1)])
  refine own_go (fun t k => XS.bipush X1.here hx rfl (hb hby d2_5) k) ?_
  show own_G p e below _ T1 (mkF m 7 #[.val (.ref s1)] [(.int (64 : Int32)), (.ref s1)])
  obtain ⟨T2, h2, c2, X2, e2, E2, A2, O2, st2⟩ := newR X1 hx hZ hown (hw _ (List.mem_of_getElem? (i := 16) rfl)) (hw _ (List.mem_of_getElem? (i := 17) rfl)) e1 (g := (mkF m 7 #[.val (.ref s1)] [(.int (64 : Int32)), (.ref s1)])) rfl (hb hby d2_7) rfl (by decide) (cap := 64) (by decide) (by decide) (by decide) (by decide)
  refine own_go st2 ?_
  show own_G p e below _ T2 (mkF m 10 #[.val (.ref s1)] [(.ref h0.size), (.ref s1)])
  have ne_s : s1 ≠ h0.size := Nat.ne_of_lt E1.lt
  obtain ⟨T3, h3, X3, e3, W3, st3⟩ := putF X2 hx hZ hown (host := "") (Or.inl (hw _ (List.mem_of_getElem? (i := 18) rfl))) Via.refl e2 (F1.ext E2) (E1.ext E2) (Or.inl (hw _ (List.mem_of_getElem? (i := 19) rfl))) (hw _ (List.mem_of_getElem? (i := 8) rfl)) (ty := .array (.object "java/lang/Object")) (by decide +kernel) rfl rfl (g := (mkF m 10 #[.val (.ref s1)] [(.ref h0.size), (.ref s1)])) rfl rfl (hb hby d2_10)
  have N3 := Fr.snoc X3 N0 g1
  have K3 := ((Keep.refl h0 [s1]).ext E2).wr W3 (Or.inl (by simp))
  have S3 : own_ST Z h3 s1 h0.size (0 : Int32) .null .null .null .null := ⟨(E1.ext E2).wr W3, (F1.ext E2).same W3, (F2.ext E2).other W3 (Or.inr (slot_ne (Or.inl (hw _ (List.mem_of_getElem? (i := 26) rfl))) (Or.inl (hw _ (List.mem_of_getElem? (i := 19) rfl))) (by decide) (t := .int) (t' := .array (.object "java/lang/Object")) (by decide +kernel) (by decide +kernel))), ne_s, _, A2.other W3 (Ne.symm ne_s), O2, sz_new _ _ _, get_new (k := 0) (by decide), get_new (k := 1) (by decide), get_new (k := 2) (by decide), get_new (k := 3) (by decide)⟩
  refine own_go st3 ?_
  show own_G p e below _ T3 (mkF m 13 #[.val (.ref s1)] [])
  exact own_ret0 X3 hx hlk hret (hb hby d2_13) (by decide) (by decide) ⟨rfl, N3, (by rw [e3]; exact K3), (by rw [e3]; exact S3)⟩
set_option maxRecDepth 65536 in
set_option maxHeartbeats 40000000 in
theorem c_push_0A (l : Launch) (Z : State) (a0 : Array Value) (hw : ∀ d ∈ tables_1, d.before a0 Z = true) (s1 ar : Addr) (b1 : Addr) (v0 v1 v2 v3 : Value) (h0 : Heap) (n0 : Nat) (Z0 : n0 ≤ h0.size) (S : own_ST Z h0 s1 ar (0 : Int32) v0 v1 v2 v3) (hsto : Sto Z h0 ar (.ref b1)) (g1 : n0 ≤ s1) (g2 : n0 ≤ ar) :
    own_M l Z (⟨"com/example/halyard/halyard/engine/OperandStack", "push", "(Ljava/lang/Object;)V"⟩ : MethodName) prog_114_method_2_code 2 none ⟨0, 0, 0, 0⟩ #[.ref s1, (.ref b1)] h0 (fun v h L => v = none ∧ Fr n0 L ∧ Keep h0 h [s1, ar] ∧ own_ST Z h s1 ar (1 : Int32) (.ref b1) v1 v2 v3) := by
  refine own_body pn_4 ?_
  intro p e s m below meth c T0 hx hby hml hlk hown hret hnm hH hnamed X0 e0
  have hZ := hH.wide
  replace hown : s.vm.findClass "com/example/halyard/halyard/engine/OperandStack" = some m.cls := hown
  replace hml : c.maxLocals = 2 := hml
  obtain ⟨E_s, F_v, F_s, ne_s, cl, A_r, O_v, hsz, t0, t1, t2, t3⟩ := id S
  have N0 := Fr.nil n0
  have ef : entryFrame m #[.ref s1, (.ref b1)] 2 = (mkF m 0 #[.val (.ref s1), .val (.ref b1)] []) := by first | (simp [entryFrame, mkF, argsToLocals, Value.category]; done) | rfl
  rw [ef]
  refine own_go (fun t k => XS.aloadN X0.here hx rfl (hb hby d4_0) rfl rfl k) ?_
  show own_G p e below _ T0 (mkF m 1 #[.val (.ref s1), .val (.ref b1)] [(.ref s1)])
  obtain ⟨T1, X1, e1, st1⟩ := getF X0 hx hZ hown (host := "") (Or.inl (hw _ (List.mem_of_getElem? (i := 25) rfl))) Via.refl e0 F_s (g := (mkF m 1 #[.val (.ref s1), .val (.ref b1)] [(.ref s1)])) rfl rfl (hb hby d4_1)
  refine own_go st1 ?_
  show own_G p e below _ T1 (mkF m 4 #[.val (.ref s1), .val (.ref b1)] [(.int (0 : Int32))])
  refine own_go (fun t k => XS.aloadN X1.here hx rfl (hb hby d4_4) rfl rfl k) ?_
  show own_G p e below _ T1 (mkF m 5 #[.val (.ref s1), .val (.ref b1)] [(.ref s1), (.int (0 : Int32))])
  obtain ⟨T2, X2, e2, st2⟩ := getF X1 hx hZ hown (host := "") (Or.inl (hw _ (List.mem_of_getElem? (i := 18) rfl))) Via.refl e1 F_v (g := (mkF m 5 #[.val (.ref s1), .val (.ref b1)] [(.ref s1), (.int (0 : Int32))])) rfl rfl (hb hby d4_5)
  refine own_go st2 ?_
  show own_G p e below _ T2 (mkF m 8 #[.val (.ref s1), .val (.ref b1)] [(.ref ar), (.int (0 : Int32))])
  refine own_go (X2.arraylength hx (own_cellAt e2 A_r) (State.isArrayOf_alike hZ.alike A_r.2.1) (g := (mkF m 8 #[.val (.ref s1), .val (.ref b1)] [(.ref ar), (.int (0 : Int32))])) rfl rfl (hb hby d4_8)) ?_
  rw [hsz]
  show own_G p e below _ T2 (mkF m 9 #[.val (.ref s1), .val (.ref b1)] [(.int (64 : Int32)), (.int (0 : Int32))])
  refine own_go (fun t k => XS.icmpYes X2.here hx rfl (pc0 := 9) (pc' := 29) rfl (hb hby d4_9) rfl (by decide) (by decide) (by decide) k) ?_
  show own_G p e below _ T2 (mkF m 29 #[.val (.ref s1), .val (.ref b1)] [])
  refine own_go (fun t k => XS.aloadN X2.here hx rfl (hb hby d4_29) rfl rfl k) ?_
  show own_G p e below _ T2 (mkF m 30 #[.val (.ref s1), .val (.ref b1)] [(.ref s1)])
  obtain ⟨T3, X3, e3, st3⟩ := getF X2 hx hZ hown (host := "") (Or.inl (hw _ (List.mem_of_getElem? (i := 18) rfl))) Via.refl e2 F_v (g := (mkF m 30 #[.val (.ref s1), .val (.ref b1)] [(.ref s1)])) rfl rfl (hb hby d4_30)
  refine own_go st3 ?_
  show own_G p e below _ T3 (mkF m 33 #[.val (.ref s1), .val (.ref b1)] [(.ref ar)])
  refine own_go (fun t k => XS.aloadN X3.here hx rfl (hb hby d4_33) rfl rfl k) ?_
  show own_G p e below _ T3 (mkF m 34 #[.val (.ref s1), .val (.ref b1)] [(.ref s1), (.ref ar)])
  refine own_go (fun t k => XS.dup X3.here hx rfl (hb hby d4_34) rfl rfl k) ?_
  show own_G p e below _ T3 (mkF m 35 #[.val (.ref s1), .val (.ref b1)] [(.ref s1), (.ref s1), (.ref ar)])
  obtain ⟨T4, X4, e4, st4⟩ := getF X3 hx hZ hown (host := "") (Or.inl (hw _ (List.mem_of_getElem? (i := 25) rfl))) Via.refl e3 F_s (g := (mkF m 35 #[.val (.ref s1), .val (.ref b1)] [(.ref s1), (.ref s1), (.ref ar)])) rfl rfl (hb hby d4_35)
  refine own_go st4 ?_
  show own_G p e below _ T4 (mkF m 38 #[.val (.ref s1), .val (.ref b1)] [(.int (0 : Int32)), (.ref s1), (.ref ar)])
  refine own_go (fun t k => XT.dupX1 X4.here hx rfl (hb hby d4_38) rfl rfl rfl k) ?_
  show own_G p e below _ T4 (mkF m 39 #[.val (.ref s1), .val (.ref b1)] [(.int (0 : Int32)), (.ref s1), (.int (0 : Int32)), (.ref ar)])
  refine own_go (fun t k => XS.iconst X4.here hx rfl (hb hby d4_39) k) ?_
  show own_G p e below _ T4 (mkF m 40 #[.val (.ref s1), .val (.ref b1)] [(.int (1 : Int32)), (.int (0 : Int32)), (.ref s1), (.int (0 : Int32)), (.ref ar)])
  refine own_go (fun t k => XS.iadd X4.here hx rfl (hb hby d4_40) rfl k) ?_
  show own_G p e below _ T4 (mkF m 41 #[.val (.ref s1), .val (.ref b1)] [(.int (1 : Int32)), (.ref s1), (.int (0 : Int32)), (.ref ar)])
  obtain ⟨T5, h5, X5, e5, W5, st5⟩ := putF X4 hx hZ hown (host := "") (Or.inl (hw _ (List.mem_of_getElem? (i := 25) rfl))) Via.refl e4 F_s E_s (Or.inl (hw _ (List.mem_of_getElem? (i := 26) rfl))) (hw _ (List.mem_of_getElem? (i := 8) rfl)) (ty := .int) (by decide) rfl rfl (g := (mkF m 41 #[.val (.ref s1), .val (.ref b1)] [(.int (1 : Int32)), (.ref s1), (.int (0 : Int32)), (.ref ar)])) rfl rfl (hb hby d4_41)
  have Fs5 := F_s.same W5
  have Fv5 := F_v.other W5 (Or.inr (slot_ne (Or.inl (hw _ (List.mem_of_getElem? (i := 19) rfl))) (Or.inl (hw _ (List.mem_of_getElem? (i := 26) rfl))) (by decide) (t := .array (.object "java/lang/Object")) (t' := .int) (by decide +kernel) (by decide +kernel)))
  have E5 := E_s.wr W5
  have A5 := A_r.other W5 (Ne.symm ne_s)
  have N5 := Fr.snoc X5 N0 g1
  have K5 := (Keep.refl h0 [s1, ar]).wr W5 (Or.inl (by simp))
  have Q5 := hsto.wr W5
  refine own_go st5 ?_
  show own_G p e below _ T5 (mkF m 44 #[.val (.ref s1), .val (.ref b1)] [(.int (0 : Int32)), (.ref ar)])
  refine own_go (fun t k => XS.aloadN X5.here hx rfl (hb hby d4_44) rfl rfl k) ?_
  show own_G p e below _ T5 (mkF m 45 #[.val (.ref s1), .val (.ref b1)] [(.ref b1), (.int (0 : Int32)), (.ref ar)])
  obtain ⟨T6, h6, X6, e6, W6, st6⟩ := stR X5 hx hZ e5 A5 (j := (0 : Int32)) (own_in hsz (by decide)) rfl Q5 (g := (mkF m 45 #[.val (.ref s1), .val (.ref b1)] [(.ref b1), (.int (0 : Int32)), (.ref ar)])) rfl rfl (hb hby d4_45)
  have A6 : Arr Z h6 ar (cl.setSlot 0 (.ref b1)) (.object "java/lang/Object") := A5.same W6
  have z6 : (cl.setSlot 0 (.ref b1)).slots.size = 64 := (sz_set _ _ _).trans hsz
  have u6_0 : (cl.setSlot 0 (.ref b1)).slots[0]? = some (.ref b1) := own_hit hsz (by decide)
  have u6_1 : (cl.setSlot 0 (.ref b1)).slots[1]? = some v1 := own_miss t1 (by decide)
  have u6_2 : (cl.setSlot 0 (.ref b1)).slots[2]? = some v2 := own_miss t2 (by decide)
  have u6_3 : (cl.setSlot 0 (.ref b1)).slots[3]? = some v3 := own_miss t3 (by decide)
  have Fs6 := Fs5.other W6 (Or.inl ne_s)
  have Fv6 := Fv5.other W6 (Or.inl ne_s)
  have E6 := E5.wr W6
  have N6 := Fr.snoc X6 N5 g2
  have K6 := K5.wr W6 (Or.inl (by simp))
  refine own_go st6 ?_
  show own_G p e below _ T6 (mkF m 46 #[.val (.ref s1), .val (.ref b1)] [])
  exact own_ret0 X6 hx hlk hret (hb hby d4_46) (by decide) (by decide) ⟨rfl, N6, (by rw [e6]; exact K6), (by rw [e6]; exact ⟨E6, Fv6, Fs6, ne_s, _, A6, O_v, z6, u6_0, u6_1, u6_2, u6_3⟩)⟩
set_option maxRecDepth 65536 in
set_option maxHeartbeats 40000000 in
theorem c_push_0N (l : Launch) (Z : State) (a0 : Array Value) (hw : ∀ d ∈ tables_1, d.before a0 Z = true) (s1 ar : Addr) (v0 v1 v2 v3 : Value) (h0 : Heap) (n0 : Nat) (Z0 : n0 ≤ h0.size) (S : own_ST Z h0 s1 ar (0 : Int32) v0 v1 v2 v3) (g1 : n0 ≤ s1) (g2 : n0 ≤ ar) :
    own_M l Z (⟨"com/example/halyard/halyard/engine/OperandStack", "push", "(Ljava/lang/Object;)V"⟩ : MethodName) prog_114_method_2_code 2 none ⟨0, 0, 0, 0⟩ #[.ref s1, .null] h0 (fun v h L => v = none ∧ Fr n0 L ∧ Keep h0 h [s1, ar] ∧ own_ST Z h s1 ar (1 : Int32) .null v1 v2 v3) := by
  refine own_body pn_4 ?_
  intro p e s m below meth c T0 hx hby hml hlk hown hret hnm hH hnamed X0 e0
  have hZ := hH.wide
  replace hown : s.vm.findClass "com/example/halyard/halyard/engine/OperandStack" = some m.cls := hown
  replace hml : c.maxLocals = 2 := hml
  obtain ⟨E_s, F_v, F_s, ne_s, cl, A_r, O_v, hsz, t0, t1, t2, t3⟩ := id S
  have N0 := Fr.nil n0
  have ef : entryFrame m #[.ref s1, .null] 2 = (mkF m 0 #[.val (.ref s1), .val .null] []) := by first | (simp [entryFrame, mkF, argsToLocals, Value.category]; done) | rfl
  rw [ef]
  refine own_go (fun t k => XS.aloadN X0.here hx rfl (hb hby d4_0) rfl rfl k) ?_
  show own_G p e below _ T0 (mkF m 1 #[.val (.ref s1), .val .null] [(.ref s1)])
  obtain ⟨T1, X1, e1, st1⟩ := getF X0 hx hZ hown (host := "") (Or.inl (hw _ (List.mem_of_getElem? (i := 25) rfl))) Via.refl e0 F_s (g := (mkF m 1 #[.val (.ref s1), .val .null] [(.ref s1)])) rfl rfl (hb hby d4_1)
  refine own_go st1 ?_
  show own_G p e below _ T1 (mkF m 4 #[.val (.ref s1), .val .null] [(.int (0 : Int32))])
  refine own_go (fun t k => XS.aloadN X1.here hx rfl (hb hby d4_4) rfl rfl k) ?_
  show own_G p e below _ T1 (mkF m 5 #[.val (.ref s1), .val .null] [(.ref s1), (.int (0 : Int32))])
  obtain ⟨T2, X2, e2, st2⟩ := getF X1 hx hZ hown (host := "") (Or.inl (hw _ (List.mem_of_getElem? (i := 18) rfl))) Via.refl e1 F_v (g := (mkF m 5 #[.val (.ref s1), .val .null] [(.ref s1), (.int (0 : Int32))])) rfl rfl (hb hby d4_5)
  refine own_go st2 ?_
  show own_G p e below _ T2 (mkF m 8 #[.val (.ref s1), .val .null] [(.ref ar), (.int (0 : Int32))])
  refine own_go (X2.arraylength hx (own_cellAt e2 A_r) (State.isArrayOf_alike hZ.alike A_r.2.1) (g := (mkF m 8 #[.val (.ref s1), .val .null] [(.ref ar), (.int (0 : Int32))])) rfl rfl (hb hby d4_8)) ?_
  rw [hsz]
  show own_G p e below _ T2 (mkF m 9 #[.val (.ref s1), .val .null] [(.int (64 : Int32)), (.int (0 : Int32))])
  refine own_go (fun t k => XS.icmpYes X2.here hx rfl (pc0 := 9) (pc' := 29) rfl (hb hby d4_9) rfl (by decide) (by decide) (by decide) k) ?_
  show own_G p e below _ T2 (mkF m 29 #[.val (.ref s1), .val .null] [])
  refine own_go (fun t k => XS.aloadN X2.here hx rfl (hb hby d4_29) rfl rfl k) ?_
  show own_G p e below _ T2 (mkF m 30 #[.val (.ref s1), .val .null] [(.ref s1)])
  obtain ⟨T3, X3, e3, st3⟩ := getF X2 hx hZ hown (host := "") (Or.inl (hw _ (List.mem_of_getElem? (i := 18) rfl))) Via.refl e2 F_v (g := (mkF m 30 #[.val (.ref s1), .val .null] [(.ref s1)])) rfl rfl (hb hby d4_30)
  refine own_go st3 ?_
  show own_G p e below _ T3 (mkF m 33 #[.val (.ref s1), .val .null] [(.ref ar)])
  refine own_go (fun t k => XS.aloadN X3.here hx rfl (hb hby d4_33) rfl rfl k) ?_
  show own_G p e below _ T3 (mkF m 34 #[.val (.ref s1), .val .null] [(.ref s1), (.ref ar)])
  refine own_go (fun t k => XS.dup X3.here hx rfl (hb hby d4_34) rfl rfl k) ?_
  show own_G p e below _ T3 (mkF m 35 #[.val (.ref s1), .val .null] [(.ref s1), (.ref s1), (.ref ar)])
  obtain ⟨T4, X4, e4, st4⟩ := getF X3 hx hZ hown (host := "") (Or.inl (hw _ (List.mem_of_getElem? (i := 25) rfl))) Via.refl e3 F_s (g := (mkF m 35 #[.val (.ref s1), .val .null] [(.ref s1), (.ref s1), (.ref ar)])) rfl rfl (hb hby d4_35)
  refine own_go st4 ?_
  show own_G p e below _ T4 (mkF m 38 #[.val (.ref s1), .val .null] [(.int (0 : Int32)), (.ref s1), (.ref ar)])
  refine own_go (fun t k => XT.dupX1 X4.here hx rfl (hb hby d4_38) rfl rfl rfl k) ?_
  show own_G p e below _ T4 (mkF m 39 #[.val (.ref s1), .val .null] [(.int (0 : Int32)), (.ref s1), (.int (0 : Int32)), (.ref ar)])
  refine own_go (fun t k => XS.iconst X4.here hx rfl (hb hby d4_39) k) ?_
  show own_G p e below _ T4 (mkF m 40 #[.val (.ref s1), .val .null] [(.int (1 : Int32)), (.int (0 : Int32)), (.ref s1), (.int (0 : Int32)), (.ref ar)])
  refine own_go (fun t k => XS.iadd X4.here hx rfl (hb hby d4_40) rfl k) ?_
  show own_G p e below _ T4 (mkF m 41 #[.val (.ref s1), .val .null] [(.int (1 : Int32)), (.ref s1), (.int (0 : Int32)), (.ref ar)])
  obtain ⟨T5, h5, X5, e5, W5, st5⟩ := putF X4 hx hZ hown (host := "") (Or.inl (hw _ (List.mem_of_getElem? (i := 25) rfl))) Via.refl e4 F_s E_s (Or.inl (hw _ (List.mem_of_getElem? (i := 26) rfl))) (hw _ (List.mem_of_getElem? (i := 8) rfl)) (ty := .int) (by decide) rfl rfl (g := (mkF m 41 #[.val (.ref s1), .val .null] [(.int (1 : Int32)), (.ref s1), (.int (0 : Int32)), (.ref ar)])) rfl rfl (hb hby d4_41)
  have Fs5 := F_s.same W5
  have Fv5 := F_v.other W5 (Or.inr (slot_ne (Or.inl (hw _ (List.mem_of_getElem? (i := 19) rfl))) (Or.inl (hw _ (List.mem_of_getElem? (i := 26) rfl))) (by decide) (t := .array (.object "java/lang/Object")) (t' := .int) (by decide +kernel) (by decide +kernel)))
  have E5 := E_s.wr W5
  have A5 := A_r.other W5 (Ne.symm ne_s)
  have N5 := Fr.snoc X5 N0 g1
  have K5 := (Keep.refl h0 [s1, ar]).wr W5 (Or.inl (by simp))
  refine own_go st5 ?_
  show own_G p e below _ T5 (mkF m 44 #[.val (.ref s1), .val .null] [(.int (0 : Int32)), (.ref ar)])
  refine own_go (fun t k => XS.aloadN X5.here hx rfl (hb hby d4_44) rfl rfl k) ?_
  show own_G p e below _ T5 (mkF m 45 #[.val (.ref s1), .val .null] [.null, (.int (0 : Int32)), (.ref ar)])
  obtain ⟨T6, h6, X6, e6, W6, st6⟩ := stR X5 hx hZ e5 A5 (j := (0 : Int32)) (own_in hsz (by decide)) rfl (Or.inl rfl) (g := (mkF m 45 #[.val (.ref s1), .val .null] [.null, (.int (0 : Int32)), (.ref ar)])) rfl rfl (hb hby d4_45)
  have A6 : Arr Z h6 ar (cl.setSlot 0 .null) (.object "java/lang/Object") := A5.same W6
  have z6 : (cl.setSlot 0 .null).slots.size = 64 := (sz_set _ _ _).trans hsz
  have u6_0 : (cl.setSlot 0 .null).slots[0]? = some .null := own_hit hsz (by decide)
  have u6_1 : (cl.setSlot 0 .null).slots[1]? = some v1 := own_miss t1 (by decide)
  have u6_2 : (cl.setSlot 0 .null).slots[2]? = some v2 := own_miss t2 (by decide)
  have u6_3 : (cl.setSlot 0 .null).slots[3]? = some v3 := own_miss t3 (by decide)
  have Fs6 := Fs5.other W6 (Or.inl ne_s)
  have Fv6 := Fv5.other W6 (Or.inl ne_s)
  have E6 := E5.wr W6
  have N6 := Fr.snoc X6 N5 g2
  have K6 := K5.wr W6 (Or.inl (by simp))
  refine own_go st6 ?_
  show own_G p e below _ T6 (mkF m 46 #[.val (.ref s1), .val .null] [])
  exact own_ret0 X6 hx hlk hret (hb hby d4_46) (by decide) (by decide) ⟨rfl, N6, (by rw [e6]; exact K6), (by rw [e6]; exact ⟨E6, Fv6, Fs6, ne_s, _, A6, O_v, z6, u6_0, u6_1, u6_2, u6_3⟩)⟩
set_option maxRecDepth 65536 in
set_option maxHeartbeats 40000000 in
theorem c_push_1A (l : Launch) (Z : State) (a0 : Array Value) (hw : ∀ d ∈ tables_1, d.before a0 Z = true) (s1 ar : Addr) (b1 : Addr) (v0 v1 v2 v3 : Value) (h0 : Heap) (n0 : Nat) (Z0 : n0 ≤ h0.size) (S : own_ST Z h0 s1 ar (1 : Int32) v0 v1 v2 v3) (hsto : Sto Z h0 ar (.ref b1)) (g1 : n0 ≤ s1) (g2 : n0 ≤ ar) :
    own_M l Z (⟨"com/example/halyard/halyard/engine/OperandStack", "push", "(Ljava/lang/Object;)V"⟩ : MethodName) prog_114_method_2_code 2 none ⟨0, 0, 0, 0⟩ #[.ref s1, (.ref b1)] h0 (fun v h L => v = none ∧ Fr n0 L ∧ Keep h0 h [s1, ar] ∧ own_ST Z h s1 ar (2 : Int32) v0 (.ref b1) v2 v3) := by
  refine own_body pn_4 ?_
  intro p e s m below meth c T0 hx hby hml hlk hown hret hnm hH hnamed X0 e0
  have hZ := hH.wide
  replace hown : s.vm.findClass "com/example/halyard/halyard/engine/OperandStack" = some m.cls := hown
  replace hml : c.maxLocals = 2 := hml
  obtain ⟨E_s, F_v, F_s, ne_s, cl, A_r, O_v, hsz, t0, t1, t2, t3⟩ := id S
  have N0 := Fr.nil n0
  have ef : entryFrame m #[.ref s1, (.ref b1)] 2 = (mkF m 0 #[.val (.ref s1), .val (.ref b1)] []) := by first | (simp [entryFrame, mkF, argsToLocals, Value.category]; done) | rfl
  rw [ef]
  refine own_go (fun t k => XS.aloadN X0.here hx rfl (hb hby d4_0) rfl rfl k) ?_
  show own_G p e below _ T0 (mkF m 1 #[.val (.ref s1), .val (.ref b1)] [(.ref s1)])
  obtain ⟨T1, X1, e1, st1⟩ := getF X0 hx hZ hown (host := "") (Or.inl (hw _ (List.mem_of_getElem? (i := 25) rfl))) Via.refl e0 F_s (g := (mkF m 1 #[.val (.ref s1), .val (.ref b1)] [(.ref s1)])) rfl rfl (hb hby d4_1)
  refine own_go st1 ?_
  show own_G p e below _ T1 (mkF m 4 #[.val (.ref s1), .val (.ref b1)] [(.int (1 : Int32))])
  refine own_go (fun t k => XS.aloadN X1.here hx rfl (hb hby d4_4) rfl rfl k) ?_
  show own_G p e below _ T1 (mkF m 5 #[.val (.ref s1), .val (.ref b1)] [(.ref s1), (.int (1 : Int32))])
  obtain ⟨T2, X2, e2, st2⟩ := getF X1 hx hZ hown (host := "") (Or.inl (hw _ (List.mem_of_getElem? (i := 18) rfl))) Via.refl e1 F_v (g := (mkF m 5 #[.val (.ref s1), .val (.ref b1)] [(.ref s1), (.int (1 : Int32))])) rfl rfl (hb hby d4_5)
  refine own_go st2 ?_
  show own_G p e below _ T2 (mkF m 8 #[.val (.ref s1), .val (.ref b1)] [(.ref ar), (.int (1 : Int32))])
  refine own_go (X2.arraylength hx (own_cellAt e2 A_r) (State.isArrayOf_alike hZ.alike A_r.2.1) (g := (mkF m 8 #[.val (.ref s1), .val (.ref b1)] [(.ref ar), (.int (1 : Int32))])) rfl rfl (hb hby d4_8)) ?_
  rw [hsz]
  show own_G p e below _ T2 (mkF m 9 #[.val (.ref s1), .val (.ref b1)] [(.int (64 : Int32)), (.int (1 : Int32))])
  refine own_go (fun t k => XS.icmpYes X2.here hx rfl (pc0 := 9) (pc' := 29) rfl (hb hby d4_9) rfl (by decide) (by decide) (by decide) k) ?_
  show own_G p e below _ T2 (mkF m 29 #[.val (.ref s1), .val (.ref b1)] [])
  refine own_go (fun t k => XS.aloadN X2.here hx rfl (hb hby d4_29) rfl rfl k) ?_
  show own_G p e below _ T2 (mkF m 30 #[.val (.ref s1), .val (.ref b1)] [(.ref s1)])
  obtain ⟨T3, X3, e3, st3⟩ := getF X2 hx hZ hown (host := "") (Or.inl (hw _ (List.mem_of_getElem? (i := 18) rfl))) Via.refl e2 F_v (g := (mkF m 30 #[.val (.ref s1), .val (.ref b1)] [(.ref s1)])) rfl rfl (hb hby d4_30)
  refine own_go st3 ?_
  show own_G p e below _ T3 (mkF m 33 #[.val (.ref s1), .val (.ref b1)] [(.ref ar)])
  refine own_go (fun t k => XS.aloadN X3.here hx rfl (hb hby d4_33) rfl rfl k) ?_
  show own_G p e below _ T3 (mkF m 34 #[.val (.ref s1), .val (.ref b1)] [(.ref s1), (.ref ar)])
  refine own_go (fun t k => XS.dup X3.here hx rfl (hb hby d4_34) rfl rfl k) ?_
  show own_G p e below _ T3 (mkF m 35 #[.val (.ref s1), .val (.ref b1)] [(.ref s1), (.ref s1), (.ref ar)])
  obtain ⟨T4, X4, e4, st4⟩ := getF X3 hx hZ hown (host := "") (Or.inl (hw _ (List.mem_of_getElem? (i := 25) rfl))) Via.refl e3 F_s (g := (mkF m 35 #[.val (.ref s1), .val (.ref b1)] [(.ref s1), (.ref s1), (.ref ar)])) rfl rfl (hb hby d4_35)
  refine own_go st4 ?_
  show own_G p e below _ T4 (mkF m 38 #[.val (.ref s1), .val (.ref b1)] [(.int (1 : Int32)), (.ref s1), (.ref ar)])
  refine own_go (fun t k => XT.dupX1 X4.here hx rfl (hb hby d4_38) rfl rfl rfl k) ?_
  show own_G p e below _ T4 (mkF m 39 #[.val (.ref s1), .val (.ref b1)] [(.int (1 : Int32)), (.ref s1), (.int (1 : Int32)), (.ref ar)])
  refine own_go (fun t k => XS.iconst X4.here hx rfl (hb hby d4_39) k) ?_
  show own_G p e below _ T4 (mkF m 40 #[.val (.ref s1), .val (.ref b1)] [(.int (1 : Int32)), (.int (1 : Int32)), (.ref s1), (.int (1 : Int32)), (.ref ar)])
  refine own_go (fun t k => XS.iadd X4.here hx rfl (hb hby d4_40) rfl k) ?_
  show own_G p e below _ T4 (mkF m 41 #[.val (.ref s1), .val (.ref b1)] [(.int (2 : Int32)), (.ref s1), (.int (1 : Int32)), (.ref ar)])
  obtain ⟨T5, h5, X5, e5, W5, st5⟩ := putF X4 hx hZ hown (host := "") (Or.inl (hw _ (List.mem_of_getElem? (i := 25) rfl))) Via.refl e4 F_s E_s (Or.inl (hw _ (List.mem_of_getElem? (i := 26) rfl))) (hw _ (List.mem_of_getElem? (i := 8) rfl)) (ty := .int) (by decide) rfl rfl (g := (mkF m 41 #[.val (.ref s1), .val (.ref b1)] [(.int (2 : Int32)), (.ref s1), (.int (1 : Int32)), (.ref ar)])) rfl rfl (hb hby d4_41)
  have Fs5 := F_s.same W5
  have Fv5 := F_v.other W5 (Or.inr (slot_ne (Or.inl (hw _ (List.mem_of_getElem? (i := 19) rfl))) (Or.inl (hw _ (List.mem_of_getElem? (i := 26) rfl))) (by decide) (t := .array (.object "java/lang/Object")) (t' := .int) (by decide +kernel) (by decide +kernel)))
  have E5 := E_s.wr W5
  have A5 := A_r.other W5 (Ne.symm ne_s)
  have N5 := Fr.snoc X5 N0 g1
  have K5 := (Keep.refl h0 [s1, ar]).wr W5 (Or.inl (by simp))
  have Q5 := hsto.wr W5
  refine own_go st5 ?_
  show own_G p e below _ T5 (mkF m 44 #[.val (.ref s1), .val (.ref b1)] [(.int (1 : Int32)), (.ref ar)])
  refine own_go (fun t k => XS.aloadN X5.here hx rfl (hb hby d4_44) rfl rfl k) ?_
  show own_G p e below _ T5 (mkF m 45 #[.val (.ref s1), .val (.ref b1)] [(.ref b1), (.int (1 : Int32)), (.ref ar)])
  obtain ⟨T6, h6, X6, e6, W6, st6⟩ := stR X5 hx hZ e5 A5 (j := (1 : Int32)) (own_in hsz (by decide)) rfl Q5 (g := (mkF m 45 #[.val (.ref s1), .val (.ref b1)] [(.ref b1), (.int (1 : Int32)), (.ref ar)])) rfl rfl (hb hby d4_45)
  have A6 : Arr Z h6 ar (cl.setSlot 1 (.ref b1)) (.object "java/lang/Object") := A5.same W6
  have z6 : (cl.setSlot 1 (.ref b1)).slots.size = 64 := (sz_set _ _ _).trans hsz
  have u6_0 : (cl.setSlot 1 (.ref b1)).slots[0]? = some v0 := own_miss t0 (by decide)
  have u6_1 : (cl.setSlot 1 (.ref b1)).slots[1]? = some (.ref b1) := own_hit hsz (by decide)
  have u6_2 : (cl.setSlot 1 (.ref b1)).slots[2]? = some v2 := own_miss t2 (by decide)
  have u6_3 : (cl.setSlot 1 (.ref b1)).slots[3]? = some v3 := own_miss t3 (by decide)
  have Fs6 := Fs5.other W6 (Or.inl ne_s)
  have Fv6 := Fv5.other W6 (Or.inl ne_s)
  have E6 := E5.wr W6
  have N6 := Fr.snoc X6 N5 g2
  have K6 := K5.wr W6 (Or.inl (by simp))
  refine own_go st6 ?_
  show own_G p e below _ T6 (mkF m 46 #[.val (.ref s1), .val (.ref b1)] [])
  exact own_ret0 X6 hx hlk hret (hb hby d4_46) (by decide) (by decide) ⟨rfl, N6, (by rw [e6]; exact K6), (by rw [e6]; exact ⟨E6, Fv6, Fs6, ne_s, _, A6, O_v, z6, u6_0, u6_1, u6_2, u6_3⟩)⟩
set_option maxRecDepth 65536 in
set_option maxHeartbeats 40000000 in
theorem c_push_2A (l : Launch) (Z : State) (a0 : Array Value) (hw : ∀ d ∈ tables_1, d.before a0 Z = true) (s1 ar : Addr) (b1 : Addr) (v0 v1 v2 v3 : Value) (h0 : Heap) (n0 : Nat) (Z0 : n0 ≤ h0.size) (S : own_ST Z h0 s1 ar (2 : Int32) v0 v1 v2 v3) (hsto : Sto Z h0 ar (.ref b1)) (g1 : n0 ≤ s1) (g2 : n0 ≤ ar) :
    own_M l Z (⟨"com/example/halyard/halyard/engine/OperandStack", "push", "(Ljava/lang/Object;)V"⟩ : MethodName) prog_114_method_2_code 2 none ⟨0, 0, 0, 0⟩ #[.ref s1, (.ref b1)] h0 (fun v h L => v = none ∧ Fr n0 L ∧ Keep h0 h [s1, ar] ∧ own_ST Z h s1 ar (3 : Int32) v0 v1 (.ref b1) v3) := by
  refine own_body pn_4 ?_
  intro p e s m below meth c T0 hx hby hml hlk hown hret hnm hH hnamed X0 e0
  have hZ := hH.wide
  replace hown : s.vm.findClass "com/example/halyard/halyard/engine/OperandStack" = some m.cls := hown
  replace hml : c.maxLocals = 2 := hml
  obtain ⟨E_s, F_v, F_s, ne_s, cl, A_r, O_v, hsz, t0, t1, t2, t3⟩ := id S
  have N0 := Fr.nil n0
  have ef : entryFrame m #[.ref s1, (.ref b1)] 2 = (mkF m 0 #[.val (.ref s1), .val (.ref b1)] []) := by first | (simp [entryFrame, mkF, argsToLocals, Value.category]; done) | rfl
  rw [ef]
  refine own_go (fun t k => XS.aloadN X0.here hx rfl (hb hby d4_0) rfl rfl k) ?_
  show own_G p e below _ T0 (mkF m 1 #[.val (.ref s1), .val (.ref b1)] [(.ref s1)])
  obtain ⟨T1, X1, e1, st1⟩ := getF X0 hx hZ hown (host := "") (Or.inl (hw _ (List.mem_of_getElem? (i := 25) rfl))) Via.refl e0 F_s (g := (mkF m 1 #[.val (.ref s1), .val (.ref b1)] [(.ref s1)])) rfl rfl (hb hby d4_1)
  refine own_go st1 ?_
  show own_G p e below _ T1 (mkF m 4 #[.val (.ref s1), .val (.ref b1)] [(.int (2 : Int32))])
  refine own_go (fun t k => XS.aloadN X1.here hx rfl (hb hby d4_4) rfl rfl k) ?_
  show own_G p e below _ T1 (mkF m 5 #[.val (.ref s1), .val (.ref b1)] [(.ref s1), (.int (2 : Int32))])
  obtain ⟨T2, X2, e2, st2⟩ := getF X1 hx hZ hown (host := "") (Or.inl (hw _ (List.mem_of_getElem? (i := 18) rfl))) Via.refl e1 F_v (g := (mkF m 5 #[.val (.ref s1), .val (.ref b1)] [(.ref s1), (.int (2 : Int32))])) rfl rfl (hb hby d4_5)
  refine own_go st2 ?_
  show own_G p e below _ T2 (mkF m 8 #[.val (.ref s1), .val (.ref b1)] [(.ref ar), (.int (2 : Int32))])
  refine own_go (X2.arraylength hx (own_cellAt e2 A_r) (State.isArrayOf_alike hZ.alike A_r.2.1) (g := (mkF m 8 #[.val (.ref s1), .val (.ref b1)] [(.ref ar), (.int (2 : Int32))])) rfl rfl (hb hby d4_8)) ?_
  rw [hsz]
  show own_G p e below _ T2 (mkF m 9 #[.val (.ref s1), .val (.ref b1)] [(.int (64 : Int32)), (.int (2 : Int32))])
  refine own_go (fun t k => XS.icmpYes X2.here hx rfl (pc0 := 9) (pc' := 29) rfl (hb hby d4_9) rfl (by decide) (by decide) (by decide) k) ?_
  show own_G p e below _ T2 (mkF m 29 #[.val (.ref s1), .val (.ref b1)] [])
  refine own_go (fun t k => XS.aloadN X2.here hx rfl (hb hby d4_29) rfl rfl k) ?_
  show own_G p e below _ T2 (mkF m 30 #[.val (.ref s1), .val (.ref b1)] [(.ref s1)])
  obtain ⟨T3, X3, e3, st3⟩ := getF X2 hx hZ hown (host := "") (Or.inl (hw _ (List.mem_of_getElem? (i := 18) rfl))) Via.refl e2 F_v (g := (mkF m 30 #[.val (.ref s1), .val (.ref b1)] [(.ref s1)])) rfl rfl (hb hby d4_30)
  refine own_go st3 ?_
  show own_G p e below _ T3 (mkF m 33 #[.val (.ref s1), .val (.ref b1)] [(.ref ar)])
  refine own_go (fun t k => XS.aloadN X3.here hx rfl (hb hby d4_33) rfl rfl k) ?_
  show own_G p e below _ T3 (mkF m 34 #[.val (.ref s1), .val (.ref b1)] [(.ref s1), (.ref ar)])
  refine own_go (fun t k => XS.dup X3.here hx rfl (hb hby d4_34) rfl rfl k) ?_
  show own_G p e below _ T3 (mkF m 35 #[.val (.ref s1), .val (.ref b1)] [(.ref s1), (.ref s1), (.ref ar)])
  obtain ⟨T4, X4, e4, st4⟩ := getF X3 hx hZ hown (host := "") (Or.inl (hw _ (List.mem_of_getElem? (i := 25) rfl))) Via.refl e3 F_s (g := (mkF m 35 #[.val (.ref s1), .val (.ref b1)] [(.ref s1), (.ref s1), (.ref ar)])) rfl rfl (hb hby d4_35)
  refine own_go st4 ?_
  show own_G p e below _ T4 (mkF m 38 #[.val (.ref s1), .val (.ref b1)] [(.int (2 : Int32)), (.ref s1), (.ref ar)])
  refine own_go (fun t k => XT.dupX1 X4.here hx rfl (hb hby d4_38) rfl rfl rfl k) ?_
  show own_G p e below _ T4 (mkF m 39 #[.val (.ref s1), .val (.ref b1)] [(.int (2 : Int32)), (.ref s1), (.int (2 : Int32)), (.ref ar)])
  refine own_go (fun t k => XS.iconst X4.here hx rfl (hb hby d4_39) k) ?_
  show own_G p e below _ T4 (mkF m 40 #[.val (.ref s1), .val (.ref b1)] [(.int (1 : Int32)), (.int (2 : Int32)), (.ref s1), (.int (2 : Int32)), (.ref ar)])
  refine own_go (fun t k => XS.iadd X4.here hx rfl (hb hby d4_40) rfl k) ?_
  show own_G p e below _ T4 (mkF m 41 #[.val (.ref s1), .val (.ref b1)] [(.int (3 : Int32)), (.ref s1), (.int (2 : Int32)), (.ref ar)])
  obtain ⟨T5, h5, X5, e5, W5, st5⟩ := putF X4 hx hZ hown (host := "") (Or.inl (hw _ (List.mem_of_getElem? (i := 25) rfl))) Via.refl e4 F_s E_s (Or.inl (hw _ (List.mem_of_getElem? (i := 26) rfl))) (hw _ (List.mem_of_getElem? (i := 8) rfl)) (ty := .int) (by decide) rfl rfl (g := (mkF m 41 #[.val (.ref s1), .val (.ref b1)] [(.int (3 : Int32)), (.ref s1), (.int (2 : Int32)), (.ref ar)])) rfl rfl (hb hby d4_41)
  have Fs5 := F_s.same W5
  have Fv5 := F_v.other W5 (Or.inr (slot_ne (Or.inl (hw _ (List.mem_of_getElem? (i := 19) rfl))) (Or.inl (hw _ (List.mem_of_getElem? (i := 26) rfl))) (by decide) (t := .array (.object "java/lang/Object")) (t' := .int) (by decide +kernel) (by decide +kernel)))
  have E5 := E_s.wr W5
  have A5 := A_r.other W5 (Ne.symm ne_s)
  have N5 := Fr.snoc X5 N0 g1
  have K5 := (Keep.refl h0 [s1, ar]).wr W5 (Or.inl (by simp))
  have Q5 := hsto.wr W5
  refine own_go st5 ?_
  show own_G p e below _ T5 (mkF m 44 #[.val (.ref s1), .val (.ref b1)] [(.int (2 : Int32)), (.ref ar)])
  refine own_go (fun t k => XS.aloadN X5.here hx rfl (hb hby d4_44) rfl rfl k) ?_
  show own_G p e below _ T5 (mkF m 45 #[.val (.ref s1), .val (.ref b1)] [(.ref b1), (.int (2 : Int32)), (.ref ar)])
  obtain ⟨T6, h6, X6, e6, W6, st6⟩ := stR X5 hx hZ e5 A5 (j := (2 : Int32)) (own_in hsz (by decide)) rfl Q5 (g := (mkF m 45 #[.val (.ref s1), .val (.ref b1)] [(.ref b1), (.int (2 : Int32)), (.ref ar)])) rfl rfl (hb hby d4_45)
  have A6 : Arr Z h6 ar (cl.setSlot 2 (.ref b1)) (.object "java/lang/Object") := A5.same W6
  have z6 : (cl.setSlot 2 (.ref b1)).slots.size = 64 := (sz_set _ _ _).trans hsz
  have u6_0 : (cl.setSlot 2 (.ref b1)).slots[0]? = some v0 := own_miss t0 (by decide)
  have u6_1 : (cl.setSlot 2 (.ref b1)).slots[1]? = some v1 := own_miss t1 (by decide)
  have u6_2 : (cl.setSlot 2 (.ref b1)).slots[2]? = some (.ref b1) := own_hit hsz (by decide)
  have u6_3 : (cl.setSlot 2 (.ref b1)).slots[3]? = some v3 := own_miss t3 (by decide)
  have Fs6 := Fs5.other W6 (Or.inl ne_s)
  have Fv6 := Fv5.other W6 (Or.inl ne_s)
  have E6 := E5.wr W6
  have N6 := Fr.snoc X6 N5 g2
  have K6 := K5.wr W6 (Or.inl (by simp))
  refine own_go st6 ?_
  show own_G p e below _ T6 (mkF m 46 #[.val (.ref s1), .val (.ref b1)] [])
  exact own_ret0 X6 hx hlk hret (hb hby d4_46) (by decide) (by decide) ⟨rfl, N6, (by rw [e6]; exact K6), (by rw [e6]; exact ⟨E6, Fv6, Fs6, ne_s, _, A6, O_v, z6, u6_0, u6_1, u6_2, u6_3⟩)⟩
set_option maxRecDepth 65536 in
set_option maxHeartbeats 40000000 in
theorem c_push_2N (l : Launch) (Z : State) (a0 : Array Value) (hw : ∀ d ∈ tables_1, d.before a0 Z = true) (s1 ar : Addr) (v0 v1 v2 v3 : Value) (h0 : Heap) (n0 : Nat) (Z0 : n0 ≤ h0.size) (S : own_ST Z h0 s1 ar (2 : Int32) v0 v1 v2 v3) (g1 : n0 ≤ s1) (g2 : n0 ≤ ar) :
    own_M l Z (⟨"com/example/halyard/halyard/engine/OperandStack", "push", "(Ljava/lang/Object;)V"⟩ : MethodName) prog_114_method_2_code 2 none ⟨0, 0, 0, 0⟩ #[.ref s1, .null] h0 (fun v h L => v = none ∧ Fr n0 L ∧ Keep h0 h [s1, ar] ∧ own_ST Z h s1 ar (3 : Int32) v0 v1 .null v3) := by
  refine own_body pn_4 ?_
  intro p e s m below meth c T0 hx hby hml hlk hown hret hnm hH hnamed X0 e0
  have hZ := hH.wide
  replace hown : s.vm.findClass "com/example/halyard/halyard/engine/OperandStack" = some m.cls := hown
  replace hml : c.maxLocals = 2 := hml
  obtain ⟨E_s, F_v, F_s, ne_s, cl, A_r, O_v, hsz, t0, t1, t2, t3⟩ := id S
  have N0 := Fr.nil n0
  have ef : entryFrame m #[.ref s1, .null] 2 = (mkF m 0 #[.val (.ref s1), .val .null] []) := by first | (simp [entryFrame, mkF, argsToLocals, Value.category]; done) | rfl
  rw [ef]
  refine own_go (fun t k => XS.aloadN X0.here hx rfl (hb hby d4_0) rfl rfl k) ?_
  show own_G p e below _ T0 (mkF m 1 #[.val (.ref s1), .val .null] [(.ref s1)])
  obtain ⟨T1, X1, e1, st1⟩ := getF X0 hx hZ hown (host := "") (Or.inl (hw _ (List.mem_of_getElem? (i := 25) rfl))) Via.refl e0 F_s (g := (mkF m 1 #[.val (.ref s1), .val .null] [(.ref s1)])) rfl rfl (hb hby d4_1)
  refine own_go st1 ?_
  show own_G p e below _ T1 (mkF m 4 #[.val (.ref s1), .val .null] [(.int (2 : Int32))])
  refine own_go (fun t k => XS.aloadN X1.here hx rfl (hb hby d4_4) rfl rfl k) ?_
  show own_G p e below _ T1 (mkF m 5 #[.val (.ref s1), .val .null] [(.ref s1), (.int (2 : Int32))])
  obtain ⟨T2, X2, e2, st2⟩ := getF X1 hx hZ hown (host := "") (Or.inl (hw _ (List.mem_of_getElem? (i := 18) rfl))) Via.refl e1 F_v (g := (mkF m 5 #[.val (.ref s1), .val .null] [(.ref s1), (.int (2 : Int32))])) rfl rfl (hb hby d4_5)
  refine own_go st2 ?_
  show own_G p e below _ T2 (mkF m 8 #[.val (.ref s1), .val .null] [(.ref ar), (.int (2 : Int32))])
  refine own_go (X2.arraylength hx (own_cellAt e2 A_r) (State.isArrayOf_alike hZ.alike A_r.2.1) (g := (mkF m 8 #[.val (.ref s1), .val .null] [(.ref ar), (.int (2 : Int32))])) rfl rfl (hb hby d4_8)) ?_
  rw [hsz]
  show own_G p e below _ T2 (mkF m 9 #[.val (.ref s1), .val .null] [(.int (64 : Int32)), (.int (2 : Int32))])
  refine own_go (fun t k => XS.icmpYes X2.here hx rfl (pc0 := 9) (pc' := 29) rfl (hb hby d4_9) rfl (by decide) (by decide) (by decide) k) ?_
  show own_G p e below _ T2 (mkF m 29 #[.val (.ref s1), .val .null] [])
  refine own_go (fun t k => XS.aloadN X2.here hx rfl (hb hby d4_29) rfl rfl k) ?_
  show own_G p e below _ T2 (mkF m 30 #[.val (.ref s1), .val .null] [(.ref s1)])
  obtain ⟨T3, X3, e3, st3⟩ := getF X2 hx hZ hown (host := "") (Or.inl (hw _ (List.mem_of_getElem? (i := 18) rfl))) Via.refl e2 F_v (g := (mkF m 30 #[.val (.ref s1), .val .null] [(.ref s1)])) rfl rfl (hb hby d4_30)
  refine own_go st3 ?_
  show own_G p e below _ T3 (mkF m 33 #[.val (.ref s1), .val .null] [(.ref ar)])
  refine own_go (fun t k => XS.aloadN X3.here hx rfl (hb hby d4_33) rfl rfl k) ?_
  show own_G p e below _ T3 (mkF m 34 #[.val (.ref s1), .val .null] [(.ref s1), (.ref ar)])
  refine own_go (fun t k => XS.dup X3.here hx rfl (hb hby d4_34) rfl rfl k) ?_
  show own_G p e below _ T3 (mkF m 35 #[.val (.ref s1), .val .null] [(.ref s1), (.ref s1), (.ref ar)])
  obtain ⟨T4, X4, e4, st4⟩ := getF X3 hx hZ hown (host := "") (Or.inl (hw _ (List.mem_of_getElem? (i := 25) rfl))) Via.refl e3 F_s (g := (mkF m 35 #[.val (.ref s1), .val .null] [(.ref s1), (.ref s1), (.ref ar)])) rfl rfl (hb hby d4_35)
  refine own_go st4 ?_
  show own_G p e below _ T4 (mkF m 38 #[.val (.ref s1), .val .null] [(.int (2 : Int32)), (.ref s1), (.ref ar)])
  refine own_go (fun t k => XT.dupX1 X4.here hx rfl (hb hby d4_38) rfl rfl rfl k) ?_
  show own_G p e below _ T4 (mkF m 39 #[.val (.ref s1), .val .null] [(.int (2 : Int32)), (.ref s1), (.int (2 : Int32)), (.ref ar)])
  refine own_go (fun t k => XS.iconst X4.here hx rfl (hb hby d4_39) k) ?_
  show own_G p e below _ T4 (mkF m 40 #[.val (.ref s1), .val .null] [(.int (1 : Int32)), (.int (2 : Int32)), (.ref s1), (.int (2 : Int32)), (.ref ar)])
  refine own_go (fun t k => XS.iadd X4.here hx rfl (hb hby d4_40) rfl k) ?_
  show own_G p e below _ T4 (mkF m 41 #[.val (.ref s1), .val .null] [(.int (3 : Int32)), (.ref s1), (.int (2 : Int32)), (.ref ar)])
  obtain ⟨T5, h5, X5, e5, W5, st5⟩ := putF X4 hx hZ hown (host := "") (Or.inl (hw _ (List.mem_of_getElem? (i := 25) rfl))) Via.refl e4 F_s E_s (Or.inl (hw _ (List.mem_of_getElem? (i := 26) rfl))) (hw _ (List.mem_of_getElem? (i := 8) rfl)) (ty := .int) (by decide) rfl rfl (g := (mkF m 41 #[.val (.ref s1), .val .null] [(.int (3 : Int32)), (.ref s1), (.int (2 : Int32)), (.ref ar)])) rfl rfl (hb hby d4_41)
  have Fs5 := F_s.same W5
  have Fv5 := F_v.other W5 (Or.inr (slot_ne (Or.inl (hw _ (List.mem_of_getElem? (i := 19) rfl))) (Or.inl (hw _ (List.mem_of_getElem? (i := 26) rfl))) (by decide) (t := .array (.object "java/lang/Object")) (t' := .int) (by decide +kernel) (by decide +kernel)))
  have E5 := E_s.wr W5
  have A5 := A_r.other W5 (Ne.symm ne_s)
  have N5 := Fr.snoc X5 N0 g1
  have K5 := (Keep.refl h0 [s1, ar]).wr W5 (Or.inl (by simp))
  refine own_go st5 ?_
  show own_G p e below _ T5 (mkF m 44 #[.val (.ref s1), .val .null] [(.int (2 : Int32)), (.ref ar)])
  refine own_go (fun t k => XS.aloadN X5.here hx rfl (hb hby d4_44) rfl rfl k) ?_
  show own_G p e below _ T5 (mkF m 45 #[.val (.ref s1), .val .null] [.null, (.int (2 : Int32)), (.ref ar)])
  obtain ⟨T6, h6, X6, e6, W6, st6⟩ := stR X5 hx hZ e5 A5 (j := (2 : Int32)) (own_in hsz (by decide)) rfl (Or.inl rfl) (g := (mkF m 45 #[.val (.ref s1), .val .null] [.null, (.int (2 : Int32)), (.ref ar)])) rfl rfl (hb hby d4_45)
  have A6 : Arr Z h6 ar (cl.setSlot 2 .null) (.object "java/lang/Object") := A5.same W6
  have z6 : (cl.setSlot 2 .null).slots.size = 64 := (sz_set _ _ _).trans hsz
  have u6_0 : (cl.setSlot 2 .null).slots[0]? = some v0 := own_miss t0 (by decide)
  have u6_1 : (cl.setSlot 2 .null).slots[1]? = some v1 := own_miss t1 (by decide)
  have u6_2 : (cl.setSlot 2 .null).slots[2]? = some .null := own_hit hsz (by decide)
  have u6_3 : (cl.setSlot 2 .null).slots[3]? = some v3 := own_miss t3 (by decide)
  have Fs6 := Fs5.other W6 (Or.inl ne_s)
  have Fv6 := Fv5.other W6 (Or.inl ne_s)
  have E6 := E5.wr W6
  have N6 := Fr.snoc X6 N5 g2
  have K6 := K5.wr W6 (Or.inl (by simp))
  refine own_go st6 ?_
  show own_G p e below _ T6 (mkF m 46 #[.val (.ref s1), .val .null] [])
  exact own_ret0 X6 hx hlk hret (hb hby d4_46) (by decide) (by decide) ⟨rfl, N6, (by rw [e6]; exact K6), (by rw [e6]; exact ⟨E6, Fv6, Fs6, ne_s, _, A6, O_v, z6, u6_0, u6_1, u6_2, u6_3⟩)⟩
set_option maxRecDepth 65536 in
set_option maxHeartbeats 40000000 in
theorem c_drop_3_1 (l : Launch) (Z : State) (a0 : Array Value) (hw : ∀ d ∈ tables_1, d.before a0 Z = true) (s1 ar : Addr) (v0 v1 v2 v3 : Value) (h0 : Heap) (n0 : Nat) (Z0 : n0 ≤ h0.size) (S : own_ST Z h0 s1 ar (3 : Int32) v0 v1 v2 v3) (g1 : n0 ≤ s1) (g2 : n0 ≤ ar) :
    own_M l Z (⟨"com/example/halyard/halyard/engine/OperandStack", "drop", "(I)V"⟩ : MethodName) prog_114_method_4_code 3 none ⟨0, 0, 0, 0⟩ #[.ref s1, .int (1 : Int32)] h0 (fun v h L => v = none ∧ Fr n0 L ∧ Keep h0 h [s1, ar] ∧ own_ST Z h s1 ar (2 : Int32) v0 v1 .null v3) := by
  refine own_body pn_6 ?_
  intro p e s m below meth c T0 hx hby hml hlk hown hret hnm hH hnamed X0 e0
  have hZ := hH.wide
  replace hown : s.vm.findClass "com/example/halyard/halyard/engine/OperandStack" = some m.cls := hown
  replace hml : c.maxLocals = 3 := hml
  obtain ⟨E_s, F_v, F_s, ne_s, cl, A_r, O_v, hsz, t0, t1, t2, t3⟩ := id S
  have N0 := Fr.nil n0
  have ef : entryFrame m #[.ref s1, .int (1 : Int32)] 3 = (mkF m 0 #[.val (.ref s1), .val (.int (1 : Int32)), .unset] []) := by first | (simp [entryFrame, mkF, argsToLocals, Value.category]; done) | rfl
  rw [ef]
  refine own_go (fun t k => XS.iconst X0.here hx rfl (hb hby d6_0) k) ?_
  show own_G p e below _ T0 (mkF m 1 #[.val (.ref s1), .val (.int (1 : Int32)), .unset] [(.int (0 : Int32))])
  refine own_go (fun t k => XS.istoreN X0.here hx rfl (hb hby d6_1) rfl (l' := #[.val (.ref s1), .val (.int (1 : Int32)), .val (.int (0 : Int32))]) rfl k) ?_
  show own_G p e below _ T0 (mkF m 2 #[.val (.ref s1), .val (.int (1 : Int32)), .val (.int (0 : Int32))] [])
  refine own_go (fun t k => XS.iloadN X0.here hx rfl (hb hby d6_2) rfl k) ?_
  show own_G p e below _ T0 (mkF m 3 #[.val (.ref s1), .val (.int (1 : Int32)), .val (.int (0 : Int32))] [(.int (0 : Int32))])
  refine own_go (fun t k => XS.iloadN X0.here hx rfl (hb hby d6_3) rfl k) ?_
  show own_G p e below _ T0 (mkF m 4 #[.val (.ref s1), .val (.int (1 : Int32)), .val (.int (0 : Int32))] [(.int (1 : Int32)), (.int (0 : Int32))])
  refine own_go (fun t k => XS.icmpNo X0.here hx rfl (hb hby d6_4) rfl (by decide) k) ?_
  show own_G p e below _ T0 (mkF m 7 #[.val (.ref s1), .val (.int (1 : Int32)), .val (.int (0 : Int32))] [])
  refine own_go (fun t k => XS.aloadN X0.here hx rfl (hb hby d6_7) rfl rfl k) ?_
  show own_G p e below _ T0 (mkF m 8 #[.val (.ref s1), .val (.int (1 : Int32)), .val (.int (0 : Int32))] [(.ref s1)])
  obtain ⟨T1, X1, e1, st1⟩ := getF X0 hx hZ hown (host := "") (Or.inl (hw _ (List.mem_of_getElem? (i := 18) rfl))) Via.refl e0 F_v (g := (mkF m 8 #[.val (.ref s1), .val (.int (1 : Int32)), .val (.int (0 : Int32))] [(.ref s1)])) rfl rfl (hb hby d6_8)
  refine own_go st1 ?_
  show own_G p e below _ T1 (mkF m 11 #[.val (.ref s1), .val (.int (1 : Int32)), .val (.int (0 : Int32))] [(.ref ar)])
  refine own_go (fun t k => XS.aloadN X1.here hx rfl (hb hby d6_11) rfl rfl k) ?_
  show own_G p e below _ T1 (mkF m 12 #[.val (.ref s1), .val (.int (1 : Int32)), .val (.int (0 : Int32))] [(.ref s1), (.ref ar)])
  refine own_go (fun t k => XS.dup X1.here hx rfl (hb hby d6_12) rfl rfl k) ?_
  show own_G p e below _ T1 (mkF m 13 #[.val (.ref s1), .val (.int (1 : Int32)), .val (.int (0 : Int32))] [(.ref s1), (.ref s1), (.ref ar)])
  obtain ⟨T2, X2, e2, st2⟩ := getF X1 hx hZ hown (host := "") (Or.inl (hw _ (List.mem_of_getElem? (i := 25) rfl))) Via.refl e1 F_s (g := (mkF m 13 #[.val (.ref s1), .val (.int (1 : Int32)), .val (.int (0 : Int32))] [(.ref s1), (.ref s1), (.ref ar)])) rfl rfl (hb hby d6_13)
  refine own_go st2 ?_
  show own_G p e below _ T2 (mkF m 16 #[.val (.ref s1), .val (.int (1 : Int32)), .val (.int (0 : Int32))] [(.int (3 : Int32)), (.ref s1), (.ref ar)])
  refine own_go (fun t k => XS.iconst X2.here hx rfl (hb hby d6_16) k) ?_
  show own_G p e below _ T2 (mkF m 17 #[.val (.ref s1), .val (.int (1 : Int32)), .val (.int (0 : Int32))] [(.int (1 : Int32)), (.int (3 : Int32)), (.ref s1), (.ref ar)])
  refine own_go (fun t k => XS.isub X2.here hx rfl (hb hby d6_17) rfl k) ?_
  show own_G p e below _ T2 (mkF m 18 #[.val (.ref s1), .val (.int (1 : Int32)), .val (.int (0 : Int32))] [(.int (2 : Int32)), (.ref s1), (.ref ar)])
  refine own_go (fun t k => XT.dupX1 X2.here hx rfl (hb hby d6_18) rfl rfl rfl k) ?_
  show own_G p e below _ T2 (mkF m 19 #[.val (.ref s1), .val (.int (1 : Int32)), .val (.int (0 : Int32))] [(.int (2 : Int32)), (.ref s1), (.int (2 : Int32)), (.ref ar)])
  obtain ⟨T3, h3, X3, e3, W3, st3⟩ := putF X2 hx hZ hown (host := "") (Or.inl (hw _ (List.mem_of_getElem? (i := 25) rfl))) Via.refl e2 F_s E_s (Or.inl (hw _ (List.mem_of_getElem? (i := 26) rfl))) (hw _ (List.mem_of_getElem? (i := 8) rfl)) (ty := .int) (by decide) rfl rfl (g := (mkF m 19 #[.val (.ref s1), .val (.int (1 : Int32)), .val (.int (0 : Int32))] [(.int (2 : Int32)), (.ref s1), (.int (2 : Int32)), (.ref ar)])) rfl rfl (hb hby d6_19)
  have Fs3 := F_s.same W3
  have Fv3 := F_v.other W3 (Or.inr (slot_ne (Or.inl (hw _ (List.mem_of_getElem? (i := 19) rfl))) (Or.inl (hw _ (List.mem_of_getElem? (i := 26) rfl))) (by decide) (t := .array (.object "java/lang/Object")) (t' := .int) (by decide +kernel) (by decide +kernel)))
  have E3 := E_s.wr W3
  have A3 := A_r.other W3 (Ne.symm ne_s)
  have N3 := Fr.snoc X3 N0 g1
  have K3 := (Keep.refl h0 [s1, ar]).wr W3 (Or.inl (by simp))
  refine own_go st3 ?_
  show own_G p e below _ T3 (mkF m 22 #[.val (.ref s1), .val (.int (1 : Int32)), .val (.int (0 : Int32))] [(.int (2 : Int32)), (.ref ar)])
  refine own_go (fun t k => XS.aconstNull X3.here hx rfl (hb hby d6_22) k) ?_
  show own_G p e below _ T3 (mkF m 23 #[.val (.ref s1), .val (.int (1 : Int32)), .val (.int (0 : Int32))] [.null, (.int (2 : Int32)), (.ref ar)])
  obtain ⟨T4, h4, X4, e4, W4, st4⟩ := stR X3 hx hZ e3 A3 (j := (2 : Int32)) (own_in hsz (by decide)) rfl (Or.inl rfl) (g := (mkF m 23 #[.val (.ref s1), .val (.int (1 : Int32)), .val (.int (0 : Int32))] [.null, (.int (2 : Int32)), (.ref ar)])) rfl rfl (hb hby d6_23)
  have A4 : Arr Z h4 ar (cl.setSlot 2 .null) (.object "java/lang/Object") := A3.same W4
  have z4 : (cl.setSlot 2 .null).slots.size = 64 := (sz_set _ _ _).trans hsz
  have u4_0 : (cl.setSlot 2 .null).slots[0]? = some v0 := own_miss t0 (by decide)
  have u4_1 : (cl.setSlot 2 .null).slots[1]? = some v1 := own_miss t1 (by decide)
  have u4_2 : (cl.setSlot 2 .null).slots[2]? = some .null := own_hit hsz (by decide)
  have u4_3 : (cl.setSlot 2 .null).slots[3]? = some v3 := own_miss t3 (by decide)
  have Fs4 := Fs3.other W4 (Or.inl ne_s)
  have Fv4 := Fv3.other W4 (Or.inl ne_s)
  have E4 := E3.wr W4
  have N4 := Fr.snoc X4 N3 g2
  have K4 := K3.wr W4 (Or.inl (by simp))
  refine own_go st4 ?_
  show own_G p e below _ T4 (mkF m 24 #[.val (.ref s1), .val (.int (1 : Int32)), .val (.int (0 : Int32))] [])
  refine own_go (fun t k => XS.iinc X4.here hx rfl (hb hby d6_24) rfl (l' := #[.val (.ref s1), .val (.int (1 : Int32)), .val (.int (1 : Int32))]) rfl k) ?_
  show own_G p e below _ T4 (mkF m 27 #[.val (.ref s1), .val (.int (1 : Int32)), .val (.int (1 : Int32))] [])
  refine own_go (fun t k => XS.goto X4.here hx rfl (pc0 := 27) (pc' := 2) rfl (hb hby d6_27) (by decide) (by decide) k) ?_
  show own_G p e below _ T4 (mkF m 2 #[.val (.ref s1), .val (.int (1 : Int32)), .val (.int (1 : Int32))] [])
  refine own_go (fun t k => XS.iloadN X4.here hx rfl (hb hby d6_2) rfl k) ?_
  show own_G p e below _ T4 (mkF m 3 #[.val (.ref s1), .val (.int (1 : Int32)), .val (.int (1 : Int32))] [(.int (1 : Int32))])
  refine own_go (fun t k => XS.iloadN X4.here hx rfl (hb hby d6_3) rfl k) ?_
  show own_G p e below _ T4 (mkF m 4 #[.val (.ref s1), .val (.int (1 : Int32)), .val (.int (1 : Int32))] [(.int (1 : Int32)), (.int (1 : Int32))])
  refine own_go (fun t k => XS.icmpYes X4.here hx rfl (pc0 := 4) (pc' := 30) rfl (hb hby d6_4) rfl (by decide) (by decide) (by decide) k) ?_
  show own_G p e below _ T4 (mkF m 30 #[.val (.ref s1), .val (.int (1 : Int32)), .val (.int (1 : Int32))] [])
  exact own_ret0 X4 hx hlk hret (hb hby d6_30) (by decide) (by decide) ⟨rfl, N4, (by rw [e4]; exact K4), (by rw [e4]; exact ⟨E4, Fv4, Fs4, ne_s, _, A4, O_v, z4, u4_0, u4_1, u4_2, u4_3⟩)⟩
set_option maxRecDepth 65536 in
set_option maxHeartbeats 40000000 in
theorem c_drop_2_1 (l : Launch) (Z : State) (a0 : Array Value) (hw : ∀ d ∈ tables_1, d.before a0 Z = true) (s1 ar : Addr) (v0 v1 v2 v3 : Value) (h0 : Heap) (n0 : Nat) (Z0 : n0 ≤ h0.size) (S : own_ST Z h0 s1 ar (2 : Int32) v0 v1 v2 v3) (g1 : n0 ≤ s1) (g2 : n0 ≤ ar) :
    own_M l Z (⟨"com/example/halyard/halyard/engine/OperandStack", "drop", "(I)V"⟩ : MethodName) prog_114_method_4_code 3 none ⟨0, 0, 0, 0⟩ #[.ref s1, .int (1 : Int32)] h0 (fun v h L => v = none ∧ Fr n0 L ∧ Keep h0 h [s1, ar] ∧ own_ST Z h s1 ar (1 : Int32) v0 .null v2 v3) := by
  refine own_body pn_6 ?_
  intro p e s m below meth c T0 hx hby hml hlk hown hret hnm hH hnamed X0 e0
  have hZ := hH.wide
  replace hown : s.vm.findClass "com/example/halyard/halyard/engine/OperandStack" = some m.cls := hown
  replace hml : c.maxLocals = 3 := hml
  obtain ⟨E_s, F_v, F_s, ne_s, cl, A_r, O_v, hsz, t0, t1, t2, t3⟩ := id S
  have N0 := Fr.nil n0
  have ef : entryFrame m #[.ref s1, .int (1 : Int32)] 3 = (mkF m 0 #[.val (.ref s1), .val (.int (1 : Int32)), .unset] []) := by first | (simp [entryFrame, mkF, argsToLocals, Value.category]; done) | rfl
  rw [ef]
  refine own_go (fun t k => XS.iconst X0.here hx rfl (hb hby d6_0) k) ?_
  show own_G p e below _ T0 (mkF m 1 #[.val (.ref s1), .val (.int (1 : Int32)), .unset] [(.int (0 : Int32))])
  refine own_go (fun t k => XS.istoreN X0.here hx rfl (hb hby d6_1) rfl (l' := #[.val (.ref s1), .val (.int (1 : Int32)), .val (.int (0 : Int32))]) rfl k) ?_
  show own_G p e below _ T0 (mkF m 2 #[.val (.ref s1), .val (.int (1 : Int32)), .val (.int (0 : Int32))] [])
  refine own_go (fun t k => XS.iloadN X0.here hx rfl (hb hby d6_2) rfl k) ?_
  show own_G p e below _ T0 (mkF m 3 #[.val (.ref s1), .val (.int (1 : Int32)), .val (.int (0 : Int32))] [(.int (0 : Int32))])
  refine own_go (fun t k => XS.iloadN X0.here hx rfl (hb hby d6_3) rfl k) ?_
  show own_G p e below _ T0 (mkF m 4 #[.val (.ref s1), .val (.int (1 : Int32)), .val (.int (0 : Int32))] [(.int (1 : Int32)), (.int (0 : Int32))])
  refine own_go (fun t k => XS.icmpNo X0.here hx rfl (hb hby d6_4) rfl (by decide) k) ?_
  show own_G p e below _ T0 (mkF m 7 #[.val (.ref s1), .val (.int (1 : Int32)), .val (.int (0 : Int32))] [])
  refine own_go (fun t k => XS.aloadN X0.here hx rfl (hb hby d6_7) rfl rfl k) ?_
  show own_G p e below _ T0 (mkF m 8 #[.val (.ref s1), .val (.int (1 : Int32)), .val (.int (0 : Int32))] [(.ref s1)])
  obtain ⟨T1, X1, e1, st1⟩ := getF X0 hx hZ hown (host := "") (Or.inl (hw _ (List.mem_of_getElem? (i := 18) rfl))) Via.refl e0 F_v (g := (mkF m 8 #[.val (.ref s1), .val (.int (1 : Int32)), .val (.int (0 : Int32))] [(.ref s1)])) rfl rfl (hb hby d6_8)
  refine own_go st1 ?_
  show own_G p e below _ T1 (mkF m 11 #[.val (.ref s1), .val (.int (1 : Int32)), .val (.int (0 : Int32))] [(.ref ar)])
  refine own_go (fun t k => XS.aloadN X1.here hx rfl (hb hby d6_11) rfl rfl k) ?_
  show own_G p e below _ T1 (mkF m 12 #[.val (.ref s1), .val (.int (1 : Int32)), .val (.int (0 : Int32))] [(.ref s1), (.ref ar)])
  refine own_go (fun t k => XS.dup X1.here hx rfl (hb hby d6_12) rfl rfl k) ?_
  show own_G p e below _ T1 (mkF m 13 #[.val (.ref s1), .val (.int (1 : Int32)), .val (.int (0 : Int32))] [(.ref s1), (.ref s1), (.ref ar)])
  obtain ⟨T2, X2, e2, st2⟩ := getF X1 hx hZ hown (host := "") (Or.inl (hw _ (List.mem_of_getElem? (i := 25) rfl))) Via.refl e1 F_s (g := (mkF m 13 #[.val (.ref s1), .val (.int (1 : Int32)), .val (.int (0 : Int32))] [(.ref s1), (.ref s1), (.ref ar)])) rfl rfl (hb hby d6_13)
  refine own_go st2 ?_
  show own_G p e below _ T2 (mkF m 16 #[.val (.ref s1), .val (.int (1 : Int32)), .val (.int (0 : Int32))] [(.int (2 : Int32)), (.ref s1), (.ref ar)])
  refine own_go (fun t k => XS.iconst X2.here hx rfl (hb hby d6_16) k) ?_
  show own_G p e below _ T2 (mkF m 17 #[.val (.ref s1), .val (.int (1 : Int32)), .val (.int (0 : Int32))] [(.int (1 : Int32)), (.int (2 : Int32)), (.ref s1), (.ref ar)])
  refine own_go (fun t k => XS.isub X2.here hx rfl (hb hby d6_17) rfl k) ?_
  show own_G p e below _ T2 (mkF m 18 #[.val (.ref s1), .val (.int (1 : Int32)), .val (.int (0 : Int32))] [(.int (1 : Int32)), (.ref s1), (.ref ar)])
  refine own_go (fun t k => XT.dupX1 X2.here hx rfl (hb hby d6_18) rfl rfl rfl k) ?_
  show own_G p e below _ T2 (mkF m 19 #[.val (.ref s1), .val (.int (1 : Int32)), .val (.int (0 : Int32))] [(.int (1 : Int32)), (.ref s1), (.int (1 : Int32)), (.ref ar)])
  obtain ⟨T3, h3, X3, e3, W3, st3⟩ := putF X2 hx hZ hown (host := "") (Or.inl (hw _ (List.mem_of_getElem? (i := 25) rfl))) Via.refl e2 F_s E_s (Or.inl (hw _ (List.mem_of_getElem? (i := 26) rfl))) (hw _ (List.mem_of_getElem? (i := 8) rfl)) (ty := .int) (by decide) rfl rfl (g := (mkF m 19 #[.val (.ref s1), .val (.int (1 : Int32)), .val (.int (0 : Int32))] [(.int (1 : Int32)), (.ref s1), (.int (1 : Int32)), (.ref ar)])) rfl rfl (hb hby d6_19)
  have Fs3 := F_s.same W3
  have Fv3 := F_v.other W3 (Or.inr (slot_ne (Or.inl (hw _ (List.mem_of_getElem? (i := 19) rfl))) (Or.inl (hw _ (List.mem_of_getElem? (i := 26) rfl))) (by decide) (t := .array (.object "java/lang/Object")) (t' := .int) (by decide +kernel) (by decide +kernel)))
  have E3 := E_s.wr W3
  have A3 := A_r.other W3 (Ne.symm ne_s)
  have N3 := Fr.snoc X3 N0 g1
  have K3 := (Keep.refl h0 [s1, ar]).wr W3 (Or.inl (by simp))
  refine own_go st3 ?_
  show own_G p e below _ T3 (mkF m 22 #[.val (.ref s1), .val (.int (1 : Int32)), .val (.int (0 : Int32))] [(.int (1 : Int32)), (.ref ar)])
  refine own_go (fun t k => XS.aconstNull X3.here hx rfl (hb hby d6_22) k) ?_
  show own_G p e below _ T3 (mkF m 23 #[.val (.ref s1), .val (.int (1 : Int32)), .val (.int (0 : Int32))] [.null, (.int (1 : Int32)), (.ref ar)])
  obtain ⟨T4, h4, X4, e4, W4, st4⟩ := stR X3 hx hZ e3 A3 (j := (1 : Int32)) (own_in hsz (by decide)) rfl (Or.inl rfl) (g := (mkF m 23 #[.val (.ref s1), .val (.int (1 : Int32)), .val (.int (0 : Int32))] [.null, (.int (1 : Int32)), (.ref ar)])) rfl rfl (hb hby d6_23)
  have A4 : Arr Z h4 ar (cl.setSlot 1 .null) (.object "java/lang/Object") := A3.same W4
  have z4 : (cl.setSlot 1 .null).slots.size = 64 := (sz_set _ _ _).trans hsz
  have u4_0 : (cl.setSlot 1 .null).slots[0]? = some v0 := own_miss t0 (by decide)
  have u4_1 : (cl.setSlot 1 .null).slots[1]? = some .null := own_hit hsz (by decide)
  have u4_2 : (cl.setSlot 1 .null).slots[2]? = some v2 := own_miss t2 (by decide)
  have u4_3 : (cl.setSlot 1 .null).slots[3]? = some v3 := own_miss t3 (by decide)
  have Fs4 := Fs3.other W4 (Or.inl ne_s)
  have Fv4 := Fv3.other W4 (Or.inl ne_s)
  have E4 := E3.wr W4
  have N4 := Fr.snoc X4 N3 g2
  have K4 := K3.wr W4 (Or.inl (by simp))
  refine own_go st4 ?_
  show own_G p e below _ T4 (mkF m 24 #[.val (.ref s1), .val (.int (1 : Int32)), .val (.int (0 : Int32))] [])
  refine own_go (fun t k => XS.iinc X4.here hx rfl (hb hby d6_24) rfl (l' := #[.val (.ref s1), .val (.int (1 : Int32)), .val (.int (1 : Int32))]) rfl k) ?_
  show own_G p e below _ T4 (mkF m 27 #[.val (.ref s1), .val (.int (1 : Int32)), .val (.int (1 : Int32))] [])
  refine own_go (fun t k => XS.goto X4.here hx rfl (pc0 := 27) (pc' := 2) rfl (hb hby d6_27) (by decide) (by decide) k) ?_
  show own_G p e below _ T4 (mkF m 2 #[.val (.ref s1), .val (.int (1 : Int32)), .val (.int (1 : Int32))] [])
  refine own_go (fun t k => XS.iloadN X4.here hx rfl (hb hby d6_2) rfl k) ?_
  show own_G p e below _ T4 (mkF m 3 #[.val (.ref s1), .val (.int (1 : Int32)), .val (.int (1 : Int32))] [(.int (1 : Int32))])
  refine own_go (fun t k => XS.iloadN X4.here hx rfl (hb hby d6_3) rfl k) ?_
  show own_G p e below _ T4 (mkF m 4 #[.val (.ref s1), .val (.int (1 : Int32)), .val (.int (1 : Int32))] [(.int (1 : Int32)), (.int (1 : Int32))])
  refine own_go (fun t k => XS.icmpYes X4.here hx rfl (pc0 := 4) (pc' := 30) rfl (hb hby d6_4) rfl (by decide) (by decide) (by decide) k) ?_
  show own_G p e below _ T4 (mkF m 30 #[.val (.ref s1), .val (.int (1 : Int32)), .val (.int (1 : Int32))] [])
  exact own_ret0 X4 hx hlk hret (hb hby d6_30) (by decide) (by decide) ⟨rfl, N4, (by rw [e4]; exact K4), (by rw [e4]; exact ⟨E4, Fv4, Fs4, ne_s, _, A4, O_v, z4, u4_0, u4_1, u4_2, u4_3⟩)⟩
set_option maxRecDepth 65536 in
set_option maxHeartbeats 40000000 in
theorem c_pop_3 (l : Launch) (Z : State) (a0 : Array Value) (hw : ∀ d ∈ tables_1, d.before a0 Z = true) (s1 ar : Addr) (v0 v1 v2 v3 : Value) (h0 : Heap) (n0 : Nat) (Z0 : n0 ≤ h0.size) (S : own_ST Z h0 s1 ar (3 : Int32) v0 v1 v2 v3) (hr : v2.isRef = true) (g1 : n0 ≤ s1) (g2 : n0 ≤ ar) :
    own_M l Z (⟨"com/example/halyard/halyard/engine/OperandStack", "pop", "()Ljava/lang/Object;"⟩ : MethodName) prog_114_method_3_code 2 (some (.object "java/lang/Object")) ⟨1, 0, 0, 16⟩ #[.ref s1] h0 (fun v h L => v = some v2 ∧ Fr n0 L ∧ Keep h0 h [s1, ar] ∧ own_ST Z h s1 ar (2 : Int32) v0 v1 .null v3) := by
  refine own_body pn_5 ?_
  intro p e s m below meth c T0 hx hby hml hlk hown hret hnm hH hnamed X0 e0
  have hZ := hH.wide
  replace hown : s.vm.findClass "com/example/halyard/halyard/engine/OperandStack" = some m.cls := hown
  replace hml : c.maxLocals = 2 := hml
  obtain ⟨E_s, F_v, F_s, ne_s, cl, A_r, O_v, hsz, t0, t1, t2, t3⟩ := id S
  have N0 := Fr.nil n0
  have ef : entryFrame m #[.ref s1] 2 = (mkF m 0 #[.val (.ref s1), .unset] []) := by first | (simp [entryFrame, mkF, argsToLocals, Value.category]; done) | rfl
  rw [ef]
  refine own_go (fun t k => XS.aloadN X0.here hx rfl (hb hby d5_0) rfl rfl k) ?_
  show own_G p e below _ T0 (mkF m 1 #[.val (.ref s1), .unset] [(.ref s1)])
  obtain ⟨T1, X1, e1, st1⟩ := getF X0 hx hZ hown (host := "") (Or.inl (hw _ (List.mem_of_getElem? (i := 18) rfl))) Via.refl e0 F_v (g := (mkF m 1 #[.val (.ref s1), .unset] [(.ref s1)])) rfl rfl (hb hby d5_1)
  refine own_go st1 ?_
  show own_G p e below _ T1 (mkF m 4 #[.val (.ref s1), .unset] [(.ref ar)])
  refine own_go (fun t k => XS.aloadN X1.here hx rfl (hb hby d5_4) rfl rfl k) ?_
  show own_G p e below _ T1 (mkF m 5 #[.val (.ref s1), .unset] [(.ref s1), (.ref ar)])
  obtain ⟨T2, X2, e2, st2⟩ := getF X1 hx hZ hown (host := "") (Or.inl (hw _ (List.mem_of_getElem? (i := 25) rfl))) Via.refl e1 F_s (g := (mkF m 5 #[.val (.ref s1), .unset] [(.ref s1), (.ref ar)])) rfl rfl (hb hby d5_5)
  refine own_go st2 ?_
  show own_G p e below _ T2 (mkF m 8 #[.val (.ref s1), .unset] [(.int (3 : Int32)), (.ref ar)])
  refine own_go (fun t k => XS.iconst X2.here hx rfl (hb hby d5_8) k) ?_
  show own_G p e below _ T2 (mkF m 9 #[.val (.ref s1), .unset] [(.int (1 : Int32)), (.int (3 : Int32)), (.ref ar)])
  refine own_go (fun t k => XS.isub X2.here hx rfl (hb hby d5_9) rfl k) ?_
  show own_G p e below _ T2 (mkF m 10 #[.val (.ref s1), .unset] [(.int (2 : Int32)), (.ref ar)])
  refine own_go (X2.aaload hx (j := (2 : Int32)) (v := v2) (own_cellAt e2 A_r) (State.isArrayOf_alike hZ.alike A_r.2.1) rfl A_r.2.2 (own_in hsz (by decide)) t2 (g := (mkF m 10 #[.val (.ref s1), .unset] [(.int (2 : Int32)), (.ref ar)])) rfl rfl (hb hby d5_10)) ?_
  show own_G p e below _ T2 (mkF m 11 #[.val (.ref s1), .unset] [v2])
  refine own_go (fun t k => XS.astoreN X2.here hx rfl (hb hby d5_11) rfl hr (l' := #[.val (.ref s1), .val v2]) (XS.store1 (o := .unset) rfl (Or.inl rfl) (own_cat hr)) k) ?_
  show own_G p e below _ T2 (mkF m 12 #[.val (.ref s1), .val v2] [])
  refine own_go (fun t k => XS.aloadN X2.here hx rfl (hb hby d5_12) rfl rfl k) ?_
  show own_G p e below _ T2 (mkF m 13 #[.val (.ref s1), .val v2] [(.ref s1)])
  refine own_go (fun t k => XS.iconst X2.here hx rfl (hb hby d5_13) k) ?_
  show own_G p e below _ T2 (mkF m 14 #[.val (.ref s1), .val v2] [(.int (1 : Int32)), (.ref s1)])
  obtain ⟨T3, L3, v3, X3, ⟨rfl, Nq3, Kq3, Sq3⟩, st3⟩ := own_callV X2 hx hH (y := (⟨"com/example/halyard/halyard/engine/OperandStack", "drop", "(I)V"⟩ : MethodName)) (z := (⟨"com/example/halyard/halyard/engine/OperandStack", "drop", "(I)V"⟩ : MethodName)) hown (hw _ (List.mem_of_getElem? (i := 33) rfl)) (hw _ (List.mem_of_getElem? (i := 34) rfl)) (hw _ (List.mem_of_getElem? (i := 36) rfl)) (hw _ (List.mem_of_getElem? (i := 36) rfl)) (hw _ (List.mem_of_getElem? (i := 35) rfl)) (hw _ (List.mem_of_getElem? (i := 37) rfl)) (hw _ (List.mem_of_getElem? (i := 9) rfl)) (notFace_of_selects (args := #[]) (mvT hZ (hw _ (List.mem_of_getElem? (i := 36) rfl)))) (by decide) (c_drop_3_1 l Z a0 hw s1 ar v0 v1 v2 v3 h0 n0 Z0 S g1 g2) e2 E_s (argsL := [(.int (1 : Int32))]) (rest := []) (g := (mkF m 14 #[.val (.ref s1), .val v2] [(.int (1 : Int32)), (.ref s1)])) rfl (by rw [hml]; rfl) (ps := [.int]) (r := none) (by decide +kernel) rfl rfl (W := 0) (by show 2 * 0 + _ ≤ _; exact Nat.le_of_eq rfl) (hb hby d5_14) (by decide) (by decide) (by decide) (by decide)
  have N3 := Fr.app N0 Nq3
  refine own_go st3 ?_
  show own_G p e below _ T3 (mkF m 17 #[.val (.ref s1), .val v2] [])
  refine own_go (fun t k => XS.aloadN X3.here hx rfl (hb hby d5_17) rfl hr k) ?_
  show own_G p e below _ T3 (mkF m 18 #[.val (.ref s1), .val v2] [v2])
  exact own_retA X3 hx hlk hret rfl hr (hb hby d5_18) (by decide) (by decide) ⟨rfl, N3, Kq3, Sq3⟩
set_option maxRecDepth 65536 in
set_option maxHeartbeats 40000000 in
theorem c_pop_2 (l : Launch) (Z : State) (a0 : Array Value) (hw : ∀ d ∈ tables_1, d.before a0 Z = true) (s1 ar : Addr) (v0 v1 v2 v3 : Value) (h0 : Heap) (n0 : Nat) (Z0 : n0 ≤ h0.size) (S : own_ST Z h0 s1 ar (2 : Int32) v0 v1 v2 v3) (hr : v1.isRef = true) (g1 : n0 ≤ s1) (g2 : n0 ≤ ar) :
    own_M l Z (⟨"com/example/halyard/halyard/engine/OperandStack", "pop", "()Ljava/lang/Object;"⟩ : MethodName) prog_114_method_3_code 2 (some (.object "java/lang/Object")) ⟨1, 0, 0, 16⟩ #[.ref s1] h0 (fun v h L => v = some v1 ∧ Fr n0 L ∧ Keep h0 h [s1, ar] ∧ own_ST Z h s1 ar (1 : Int32) v0 .null v2 v3) := by
  refine own_body pn_5 ?_
  intro p e s m below meth c T0 hx hby hml hlk hown hret hnm hH hnamed X0 e0
  have hZ := hH.wide
  replace hown : s.vm.findClass "com/example/halyard/halyard/engine/OperandStack" = some m.cls := hown
  replace hml : c.maxLocals = 2 := hml
  obtain ⟨E_s, F_v, F_s, ne_s, cl, A_r, O_v, hsz, t0, t1, t2, t3⟩ := id S
  have N0 := Fr.nil n0
  have ef : entryFrame m #[.ref s1] 2 = (mkF m 0 #[.val (.ref s1), .unset] []) := by first | (simp [entryFrame, mkF, argsToLocals, Value.category]; done) | rfl
  rw [ef]
  refine own_go (fun t k => XS.aloadN X0.here hx rfl (hb hby d5_0) rfl rfl k) ?_
  show own_G p e below _ T0 (mkF m 1 #[.val (.ref s1), .unset] [(.ref s1)])
  obtain ⟨T1, X1, e1, st1⟩ := getF X0 hx hZ hown (host := "") (Or.inl (hw _ (List.mem_of_getElem? (i := 18) rfl))) Via.refl e0 F_v (g := (mkF m 1 #[.val (.ref s1), .unset] [(.ref s1)])) rfl rfl (hb hby d5_1)
  refine own_go st1 ?_
  show own_G p e below _ T1 (mkF m 4 #[.val (.ref s1), .unset] [(.ref ar)])
  refine own_go (fun t k => XS.aloadN X1.here hx rfl (hb hby d5_4) rfl rfl k) ?_
  show own_G p e below _ T1 (mkF m 5 #[.val (.ref s1), .unset] [(.ref s1), (.ref ar)])
  obtain ⟨T2, X2, e2, st2⟩ := getF X1 hx hZ hown (host := "") (Or.inl (hw _ (List.mem_of_getElem? (i := 25) rfl))) Via.refl e1 F_s (g := (mkF m 5 #[.val (.ref s1), .unset] [(.ref s1), (.ref ar)])) rfl rfl (hb hby d5_5)
  refine own_go st2 ?_
  show own_G p e below _ T2 (mkF m 8 #[.val (.ref s1), .unset] [(.int (2 : Int32)), (.ref ar)])
  refine own_go (fun t k => XS.iconst X2.here hx rfl (hb hby d5_8) k) ?_
  show own_G p e below _ T2 (mkF m 9 #[.val (.ref s1), .unset] [(.int (1 : Int32)), (.int (2 : Int32)), (.ref ar)])
  refine own_go (fun t k => XS.isub X2.here hx rfl (hb hby d5_9) rfl k) ?_
  show own_G p e below _ T2 (mkF m 10 #[.val (.ref s1), .unset] [(.int (1 : Int32)), (.ref ar)])
  refine own_go (X2.aaload hx (j := (1 : Int32)) (v := v1) (own_cellAt e2 A_r) (State.isArrayOf_alike hZ.alike A_r.2.1) rfl A_r.2.2 (own_in hsz (by decide)) t1 (g := (mkF m 10 #[.val (.ref s1), .unset] [(.int (1 : Int32)), (.ref ar)])) rfl rfl (hb hby d5_10)) ?_
  show own_G p e below _ T2 (mkF m 11 #[.val (.ref s1), .unset] [v1])
  refine own_go (fun t k => XS.astoreN X2.here hx rfl (hb hby d5_11) rfl hr (l' := #[.val (.ref s1), .val v1]) (XS.store1 (o := .unset) rfl (Or.inl rfl) (own_cat hr)) k) ?_
  show own_G p e below _ T2 (mkF m 12 #[.val (.ref s1), .val v1] [])
  refine own_go (fun t k => XS.aloadN X2.here hx rfl (hb hby d5_12) rfl rfl k) ?_
  show own_G p e below _ T2 (mkF m 13 #[.val (.ref s1), .val v1] [(.ref s1)])
  refine own_go (fun t k => XS.iconst X2.here hx rfl (hb hby d5_13) k) ?_
  show own_G p e below _ T2 (mkF m 14 #[.val (.ref s1), .val v1] [(.int (1 : Int32)), (.ref s1)])
  obtain ⟨T3, L3, v3, X3, ⟨rfl, Nq3, Kq3, Sq3⟩, st3⟩ := own_callV X2 hx hH (y := (⟨"com/example/halyard/halyard/engine/OperandStack", "drop", "(I)V"⟩ : MethodName)) (z := (⟨"com/example/halyard/halyard/engine/OperandStack", "drop", "(I)V"⟩ : MethodName)) hown (hw _ (List.mem_of_getElem? (i := 33) rfl)) (hw _ (List.mem_of_getElem? (i := 34) rfl)) (hw _ (List.mem_of_getElem? (i := 36) rfl)) (hw _ (List.mem_of_getElem? (i := 36) rfl)) (hw _ (List.mem_of_getElem? (i := 35) rfl)) (hw _ (List.mem_of_getElem? (i := 37) rfl)) (hw _ (List.mem_of_getElem? (i := 9) rfl)) (notFace_of_selects (args := #[]) (mvT hZ (hw _ (List.mem_of_getElem? (i := 36) rfl)))) (by decide) (c_drop_2_1 l Z a0 hw s1 ar v0 v1 v2 v3 h0 n0 Z0 S g1 g2) e2 E_s (argsL := [(.int (1 : Int32))]) (rest := []) (g := (mkF m 14 #[.val (.ref s1), .val v1] [(.int (1 : Int32)), (.ref s1)])) rfl (by rw [hml]; rfl) (ps := [.int]) (r := none) (by decide +kernel) rfl rfl (W := 0) (by show 2 * 0 + _ ≤ _; exact Nat.le_of_eq rfl) (hb hby d5_14) (by decide) (by decide) (by decide) (by decide)
  have N3 := Fr.app N0 Nq3
  refine own_go st3 ?_
  show own_G p e below _ T3 (mkF m 17 #[.val (.ref s1), .val v1] [])
  refine own_go (fun t k => XS.aloadN X3.here hx rfl (hb hby d5_17) rfl hr k) ?_
  show own_G p e below _ T3 (mkF m 18 #[.val (.ref s1), .val v1] [v1])
  exact own_retA X3 hx hlk hret rfl hr (hb hby d5_18) (by decide) (by decide) ⟨rfl, N3, Kq3, Sq3⟩
set_option maxRecDepth 65536 in
set_option maxHeartbeats 40000000 in
theorem c_lam_2 (l : Launch) (Z : State) (a0 : Array Value) (hw : ∀ d ∈ tables_1, d.before a0 Z = true) (s1 ar : Addr) (n d i : Int32) (v0 v1 v2 v3 : Value) (h0 : Heap) (S : own_ST Z h0 s1 ar n v0 v1 v2 v3) (hr : v2.isRef = true) (hidx : ((n - d) + i) = (2 : Int32)) :
    own_M l Z (⟨"com/example/halyard/halyard/engine/OperandStack", "lambda$operand$0", "(IILcom/example/halyard/halyard/engine/Frame;)Ljava/lang/Object;"⟩ : MethodName) prog_114_method_6_code 4 (some (.object "java/lang/Object")) ⟨0, 0, 0, 0⟩ #[.ref s1, .int d, .int i, .null] h0 (fun v h L => v = some v2 ∧ L = [] ∧ h = h0) := by
  refine own_body pn_8 ?_
  intro p e s m below meth c T0 hx hby hml hlk hown hret hnm hH hnamed X0 e0
  have hZ := hH.wide
  replace hown : s.vm.findClass "com/example/halyard/halyard/engine/OperandStack" = some m.cls := hown
  replace hml : c.maxLocals = 4 := hml
  obtain ⟨E_s, F_v, F_s, ne_s, cl, A_r, O_v, hsz, t0, t1, t2, t3⟩ := id S
  have ef : entryFrame m #[.ref s1, .int d, .int i, .null] 4 = (mkF m 0 #[.val (.ref s1), .val (.int d), .val (.int i), .val .null] []) := by first | (simp [entryFrame, mkF, argsToLocals, Value.category]; done) | rfl
  rw [ef]
  refine own_go (fun t k => XS.aloadN X0.here hx rfl (hb hby d8_0) rfl rfl k) ?_
  show own_G p e below _ T0 (mkF m 1 #[.val (.ref s1), .val (.int d), .val (.int i), .val .null] [(.ref s1)])
  obtain ⟨T1, X1, e1, st1⟩ := getF X0 hx hZ hown (host := "") (Or.inl (hw _ (List.mem_of_getElem? (i := 18) rfl))) Via.refl e0 F_v (g := (mkF m 1 #[.val (.ref s1), .val (.int d), .val (.int i), .val .null] [(.ref s1)])) rfl rfl (hb hby d8_1)
  refine own_go st1 ?_
  show own_G p e below _ T1 (mkF m 4 #[.val (.ref s1), .val (.int d), .val (.int i), .val .null] [(.ref ar)])
  refine own_go (fun t k => XS.aloadN X1.here hx rfl (hb hby d8_4) rfl rfl k) ?_
  show own_G p e below _ T1 (mkF m 5 #[.val (.ref s1), .val (.int d), .val (.int i), .val .null] [(.ref s1), (.ref ar)])
  obtain ⟨T2, X2, e2, st2⟩ := getF X1 hx hZ hown (host := "") (Or.inl (hw _ (List.mem_of_getElem? (i := 25) rfl))) Via.refl e1 F_s (g := (mkF m 5 #[.val (.ref s1), .val (.int d), .val (.int i), .val .null] [(.ref s1), (.ref ar)])) rfl rfl (hb hby d8_5)
  refine own_go st2 ?_
  show own_G p e below _ T2 (mkF m 8 #[.val (.ref s1), .val (.int d), .val (.int i), .val .null] [(.int n), (.ref ar)])
  refine own_go (fun t k => XS.iloadN X2.here hx rfl (hb hby d8_8) rfl k) ?_
  show own_G p e below _ T2 (mkF m 9 #[.val (.ref s1), .val (.int d), .val (.int i), .val .null] [(.int d), (.int n), (.ref ar)])
  refine own_go (fun t k => XS.isub X2.here hx rfl (hb hby d8_9) rfl k) ?_
  show own_G p e below _ T2 (mkF m 10 #[.val (.ref s1), .val (.int d), .val (.int i), .val .null] [(.int (n - d)), (.ref ar)])
  refine own_go (fun t k => XS.iloadN X2.here hx rfl (hb hby d8_10) rfl k) ?_
  show own_G p e below _ T2 (mkF m 11 #[.val (.ref s1), .val (.int d), .val (.int i), .val .null] [(.int i), (.int (n - d)), (.ref ar)])
  refine own_go (fun t k => XS.iadd X2.here hx rfl (hb hby d8_11) rfl k) ?_
  show own_G p e below _ T2 (mkF m 12 #[.val (.ref s1), .val (.int d), .val (.int i), .val .null] [(.int ((n - d) + i)), (.ref ar)])
  rw [hidx]
  show own_G p e below _ T2 (mkF m 12 #[.val (.ref s1), .val (.int d), .val (.int i), .val .null] [(.int (2 : Int32)), (.ref ar)])
  refine own_go (X2.aaload hx (j := (2 : Int32)) (v := v2) (own_cellAt e2 A_r) (State.isArrayOf_alike hZ.alike A_r.2.1) rfl A_r.2.2 (own_in hsz (by decide)) t2 (g := (mkF m 12 #[.val (.ref s1), .val (.int d), .val (.int i), .val .null] [(.int (2 : Int32)), (.ref ar)])) rfl rfl (hb hby d8_12)) ?_
  show own_G p e below _ T2 (mkF m 13 #[.val (.ref s1), .val (.int d), .val (.int i), .val .null] [v2])
  exact own_retA X2 hx hlk hret rfl hr (hb hby d8_13) (by decide) (by decide) ⟨rfl, rfl, e2⟩
set_option maxRecDepth 65536 in
set_option maxHeartbeats 40000000 in
theorem c_lam_0 (l : Launch) (Z : State) (a0 : Array Value) (hw : ∀ d ∈ tables_1, d.before a0 Z = true) (s1 ar : Addr) (n d i : Int32) (v0 v1 v2 v3 : Value) (h0 : Heap) (S : own_ST Z h0 s1 ar n v0 v1 v2 v3) (hr : v0.isRef = true) (hidx : ((n - d) + i) = (0 : Int32)) :
    own_M l Z (⟨"com/example/halyard/halyard/engine/OperandStack", "lambda$operand$0", "(IILcom/example/halyard/halyard/engine/Frame;)Ljava/lang/Object;"⟩ : MethodName) prog_114_method_6_code 4 (some (.object "java/lang/Object")) ⟨0, 0, 0, 0⟩ #[.ref s1, .int d, .int i, .null] h0 (fun v h L => v = some v0 ∧ L = [] ∧ h = h0) := by
  refine own_body pn_8 ?_
  intro p e s m below meth c T0 hx hby hml hlk hown hret hnm hH hnamed X0 e0
  have hZ := hH.wide
  replace hown : s.vm.findClass "com/example/halyard/halyard/engine/OperandStack" = some m.cls := hown
  replace hml : c.maxLocals = 4 := hml
  obtain ⟨E_s, F_v, F_s, ne_s, cl, A_r, O_v, hsz, t0, t1, t2, t3⟩ := id S
  have ef : entryFrame m #[.ref s1, .int d, .int i, .null] 4 = (mkF m 0 #[.val (.ref s1), .val (.int d), .val (.int i), .val .null] []) := by first | (simp [entryFrame, mkF, argsToLocals, Value.category]; done) | rfl
  rw [ef]
  refine own_go (fun t k => XS.aloadN X0.here hx rfl (hb hby d8_0) rfl rfl k) ?_
  show own_G p e below _ T0 (mkF m 1 #[.val (.ref s1), .val (.int d), .val (.int i), .val .null] [(.ref s1)])
  obtain ⟨T1, X1, e1, st1⟩ := getF X0 hx hZ hown (host := "") (Or.inl (hw _ (List.mem_of_getElem? (i := 18) rfl))) Via.refl e0 F_v (g := (mkF m 1 #[.val (.ref s1), .val (.int d), .val (.int i), .val .null] [(.ref s1)])) rfl rfl (hb hby d8_1)
  refine own_go st1 ?_
  show own_G p e below _ T1 (mkF m 4 #[.val (.ref s1), .val (.int d), .val (.int i), .val .null] [(.ref ar)])
  refine own_go (fun t k => XS.aloadN X1.here hx rfl (hb hby d8_4) rfl rfl k) ?_
  show own_G p e below _ T1 (mkF m 5 #[.val (.ref s1), .val (.int d), .val (.int i), .val .null] [(.ref s1), (.ref ar)])
  obtain ⟨T2, X2, e2, st2⟩ := getF X1 hx hZ hown (host := "") (Or.inl (hw _ (List.mem_of_getElem? (i := 25) rfl))) Via.refl e1 F_s (g := (mkF m 5 #[.val (.ref s1), .val (.int d), .val (.int i), .val .null] [(.ref s1), (.ref ar)])) rfl rfl (hb hby d8_5)
  refine own_go st2 ?_
  show own_G p e below _ T2 (mkF m 8 #[.val (.ref s1), .val (.int d), .val (.int i), .val .null] [(.int n), (.ref ar)])
  refine own_go (fun t k => XS.iloadN X2.here hx rfl (hb hby d8_8) rfl k) ?_
  show own_G p e below _ T2 (mkF m 9 #[.val (.ref s1), .val (.int d), .val (.int i), .val .null] [(.int d), (.int n), (.ref ar)])
  refine own_go (fun t k => XS.isub X2.here hx rfl (hb hby d8_9) rfl k) ?_
  show own_G p e below _ T2 (mkF m 10 #[.val (.ref s1), .val (.int d), .val (.int i), .val .null] [(.int (n - d)), (.ref ar)])
  refine own_go (fun t k => XS.iloadN X2.here hx rfl (hb hby d8_10) rfl k) ?_
  show own_G p e below _ T2 (mkF m 11 #[.val (.ref s1), .val (.int d), .val (.int i), .val .null] [(.int i), (.int (n - d)), (.ref ar)])
  refine own_go (fun t k => XS.iadd X2.here hx rfl (hb hby d8_11) rfl k) ?_
  show own_G p e below _ T2 (mkF m 12 #[.val (.ref s1), .val (.int d), .val (.int i), .val .null] [(.int ((n - d) + i)), (.ref ar)])
  rw [hidx]
  show own_G p e below _ T2 (mkF m 12 #[.val (.ref s1), .val (.int d), .val (.int i), .val .null] [(.int (0 : Int32)), (.ref ar)])
  refine own_go (X2.aaload hx (j := (0 : Int32)) (v := v0) (own_cellAt e2 A_r) (State.isArrayOf_alike hZ.alike A_r.2.1) rfl A_r.2.2 (own_in hsz (by decide)) t0 (g := (mkF m 12 #[.val (.ref s1), .val (.int d), .val (.int i), .val .null] [(.int (0 : Int32)), (.ref ar)])) rfl rfl (hb hby d8_12)) ?_
  show own_G p e below _ T2 (mkF m 13 #[.val (.ref s1), .val (.int d), .val (.int i), .val .null] [v0])
  exact own_retA X2 hx hlk hret rfl hr (hb hby d8_13) (by decide) (by decide) ⟨rfl, rfl, e2⟩
set_option maxRecDepth 65536 in
set_option maxHeartbeats 40000000 in
theorem c_operand (l : Launch) (Z : State) (a0 : Array Value) (hw : ∀ d ∈ tables_1, d.before a0 Z = true) (s1 : Addr) (i d : Int32) (h0 : Heap)  :
    own_M l Z (⟨"com/example/halyard/halyard/engine/OperandStack", "operand", "(II)Lcom/example/halyard/halyard/engine/Code;"⟩ : MethodName) prog_114_method_5_code 3 (some (.object "com/example/halyard/halyard/engine/Code")) ⟨0, 1, 3, 3080⟩ #[.ref s1, .int i, .int d] h0 (fun v h L => ∃ cK, v = some (.ref h0.size) ∧ L = [] ∧ Jvm.LamKit.Made Z own_K own_sh cK ∧ h = h0.push { cls := cK, slots := #[.ref s1, .int d, .int i], vm := .none }) := by
  refine own_body pn_7 ?_
  intro p e s m below meth c T0 hx hby hml hlk hown hret hnm hH hnamed X0 e0
  have hZ := hH.wide
  replace hown : s.vm.findClass "com/example/halyard/halyard/engine/OperandStack" = some m.cls := hown
  replace hml : c.maxLocals = 3 := hml
  have ef : entryFrame m #[.ref s1, .int i, .int d] 3 = (mkF m 0 #[.val (.ref s1), .val (.int i), .val (.int d)] []) := by first | (simp [entryFrame, mkF, argsToLocals, Value.category]; done) | rfl
  rw [ef]
  refine own_go (fun t k => XS.aloadN X0.here hx rfl (hb hby d7_0) rfl rfl k) ?_
  show own_G p e below _ T0 (mkF m 1 #[.val (.ref s1), .val (.int i), .val (.int d)] [(.ref s1)])
  refine own_go (fun t k => XS.iloadN X0.here hx rfl (hb hby d7_1) rfl k) ?_
  show own_G p e below _ T0 (mkF m 2 #[.val (.ref s1), .val (.int i), .val (.int d)] [(.int d), (.ref s1)])
  refine own_go (fun t k => XS.iloadN X0.here hx rfl (hb hby d7_2) rfl k) ?_
  show own_G p e below _ T0 (mkF m 3 #[.val (.ref s1), .val (.int i), .val (.int d)] [(.int i), (.int d), (.ref s1)])
  obtain ⟨cK, md, X3, st3⟩ := own_site (fi := 18) (σ := own_sh) X0 hx hH hnamed (hw _ (List.mem_of_getElem? (i := 43) rfl)) (by decide) own_c0 (hw _ (List.mem_of_getElem? (i := 46) rfl)) (g := (mkF m 3 #[.val (.ref s1), .val (.int i), .val (.int d)] [(.int i), (.int d), (.ref s1)])) rfl rfl (by rw [hml]; rfl) (hb hby d7_3) (vals := [.ref s1, .int d, .int i]) (rest := []) rfl rfl (own_fit s1 d i) (by show 2 * 0 + 3 + 3072 ≤ 3080; decide) (by decide) (show 0 + 3 ≤ 3 by decide)
  have e3 : (T0.pushCell { cls := cK, slots := #[.ref s1, .int d, .int i], vm := .none }).heap = h0.push { cls := cK, slots := #[.ref s1, .int d, .int i], vm := .none } := by show T0.heap.push _ = _; rw [e0]
  rw [e0] at st3
  refine own_go st3 ?_
  show own_G p e below _ (T0.pushCell { cls := cK, slots := #[.ref s1, .int d, .int i], vm := .none }) (mkF m 8 #[.val (.ref s1), .val (.int i), .val (.int d)] [(.ref h0.size)])
  exact own_retA X3 hx hlk hret rfl rfl (hb hby d7_8) (by decide) (show 0 + 3 ≤ 3 by decide) ⟨cK, rfl, rfl, md, e3⟩
set_option maxRecDepth 65536 in
set_option maxHeartbeats 40000000 in
theorem c_ninit (l : Launch) (Z : State) (a0 : Array Value) (hw : ∀ d ∈ tables_1, d.before a0 Z = true) (a1 : Addr) (h0 : Heap)  :
    own_M l Z (⟨"java/lang/Number", "<init>", "()V"⟩ : MethodName) jdk_18_method_1_code 1 none ⟨1, 0, 0, 16⟩ #[.ref a1] h0 (fun v h L => v = none ∧ L = [] ∧ h = h0) := by
  refine own_body pn_10 ?_
  intro p e s m below meth c T0 hx hby hml hlk hown hret hnm hH hnamed X0 e0
  have hZ := hH.wide
  replace hown : s.vm.findClass "java/lang/Number" = some m.cls := hown
  replace hml : c.maxLocals = 1 := hml
  have ef : entryFrame m #[.ref a1] 1 = (mkF m 0 #[.val (.ref a1)] []) := by first | (simp [entryFrame, mkF, argsToLocals, Value.category]; done) | rfl
  rw [ef]
  refine own_go (fun t k => XS.aloadN X0.here hx rfl (hb hby d10_0) rfl rfl k) ?_
  show own_G p e below _ T0 (mkF m 1 #[.val (.ref a1)] [(.ref a1)])
  obtain ⟨T1, X1, e1, st1⟩ := initO X0 hx hZ hown (hw _ (List.mem_of_getElem? (i := 65) rfl)) (hw _ (List.mem_of_getElem? (i := 14) rfl)) (hw _ (List.mem_of_getElem? (i := 15) rfl)) e0 (g := (mkF m 1 #[.val (.ref a1)] [(.ref a1)])) rfl (by rw [hml]; rfl) rfl (hb hby d10_1) (by decide) (W := 0) (by show 2 * 0 + _ ≤ _; exact Nat.le_of_eq rfl) (by decide)
  refine own_go st1 ?_
  show own_G p e below _ T1 (mkF m 4 #[.val (.ref a1)] [])
  exact own_ret0 X1 hx hlk hret (hb hby d10_4) (by decide) (by decide) ⟨rfl, rfl, e1⟩
set_option maxRecDepth 65536 in
set_option maxHeartbeats 40000000 in
theorem c_iinit (l : Launch) (Z : State) (a0 : Array Value) (hw : ∀ d ∈ tables_1, d.before a0 Z = true) (a1 : Addr) (k1 : Int32) (h0 : Heap) (n0 : Nat) (Z0 : n0 ≤ h0.size) (E1 : Exa Z h0 a1 "java/lang/Integer") (F1 : Fld Z h0 a1 "java/lang/Integer" "value" "I" (.int (0 : Int32))) (g1 : n0 ≤ a1) :
    own_M l Z (⟨"java/lang/Integer", "<init>", "(I)V"⟩ : MethodName) jdk_33_method_23_code 2 none ⟨2, 0, 0, 32⟩ #[.ref a1, .int k1] h0 (fun v h L => v = none ∧ Fr n0 L ∧ Keep h0 h [a1]) := by
  refine own_body pn_9 ?_
  intro p e s m below meth c T0 hx hby hml hlk hown hret hnm hH hnamed X0 e0
  have hZ := hH.wide
  replace hown : s.vm.findClass "java/lang/Integer" = some m.cls := hown
  replace hml : c.maxLocals = 2 := hml
  have N0 := Fr.nil n0
  have ef : entryFrame m #[.ref a1, .int k1] 2 = (mkF m 0 #[.val (.ref a1), .val (.int k1)] []) := by first | (simp [entryFrame, mkF, argsToLocals, Value.category]; done) | rfl
  rw [ef]
  refine own_go (fun t k => XS.aloadN X0.here hx rfl (hb hby d9_0) rfl rfl k) ?_
  show own_G p e below _ T0 (mkF m 1 #[.val (.ref a1), .val (.int k1)] [(.ref a1)])
  obtain ⟨T1, L1, v1, X1, ⟨rfl, rfl, q1⟩, st1⟩ := own_callN X0 hx hH (y := (⟨"java/lang/Number", "<init>", "()V"⟩ : MethodName)) rfl hown (hw _ (List.mem_of_getElem? (i := 59) rfl)) (hw _ (List.mem_of_getElem? (i := 60) rfl)) (hw _ (List.mem_of_getElem? (i := 64) rfl)) (hw _ (List.mem_of_getElem? (i := 63) rfl)) (by decide) (c_ninit l Z a0 hw a1 h0) e0 (argsL := []) (rest := []) (g := (mkF m 1 #[.val (.ref a1), .val (.int k1)] [(.ref a1)])) rfl (by rw [hml]; rfl) (ps := []) (r := none) (by decide +kernel) rfl rfl (W := 0) (by show 2 * 0 + _ ≤ _; exact Nat.le_of_eq rfl) (hb hby d9_1) (by decide) (by decide) (by decide) (by decide)
  have N1 := Fr.app N0 (Fr.nil n0)
  refine own_go st1 ?_
  show own_G p e below _ T1 (mkF m 4 #[.val (.ref a1), .val (.int k1)] [])
  refine own_go (fun t k => XS.aloadN X1.here hx rfl (hb hby d9_4) rfl rfl k) ?_
  show own_G p e below _ T1 (mkF m 5 #[.val (.ref a1), .val (.int k1)] [(.ref a1)])
  refine own_go (fun t k => XS.iloadN X1.here hx rfl (hb hby d9_5) rfl k) ?_
  show own_G p e below _ T1 (mkF m 6 #[.val (.ref a1), .val (.int k1)] [(.int k1), (.ref a1)])
  obtain ⟨T2, h2, X2, e2, W2, st2⟩ := putF X1 hx hZ hown (host := "") (Or.inl (hw _ (List.mem_of_getElem? (i := 66) rfl))) Via.refl q1 F1 E1 (Or.inr ⟨(hw _ (List.mem_of_getElem? (i := 67) rfl)), rfl, hnm⟩) (hw _ (List.mem_of_getElem? (i := 54) rfl)) (ty := .int) (by decide) rfl rfl (g := (mkF m 6 #[.val (.ref a1), .val (.int k1)] [(.int k1), (.ref a1)])) rfl rfl (hb hby d9_6)
  have N2 := Fr.snoc X2 N1 g1
  have K2 := (Keep.refl h0 [a1]).wr W2 (Or.inl (by simp))
  refine own_go st2 ?_
  show own_G p e below _ T2 (mkF m 9 #[.val (.ref a1), .val (.int k1)] [])
  exact own_ret0 X2 hx hlk hret (hb hby d9_9) (by decide) (by decide) ⟨rfl, N2, (by rw [e2]; exact K2)⟩
theorem own_idx {k : Int32} (h1 : ¬ k < (-128 : Int32)) (h2 : ¬ (127 : Int32) < k) : ¬ ((k + (128 : Int32)) < 0 ∨ 256 ≤ (k + (128 : Int32)).toNatClampNeg) ∧ (k + (128 : Int32)).toNatClampNeg < 256 := by
  have c1 : (-128 : Int32).toInt = -128 := by decide
  have c2 : (127 : Int32).toInt = 127 := by decide
  have c3 : (128 : Int32).toInt = 128 := by decide
  have c4 : (0 : Int32).toInt = 0 := by decide
  rw [Int32.lt_iff_toInt_lt] at h1 h2
  have e := Jvm.Kit.i32_add (p := k) (q := 128) (by omega) (by omega)
  have d : (k + (128 : Int32)).toNatClampNeg = (k + (128 : Int32)).toInt.toNat := rfl
  rw [Int32.lt_iff_toInt_lt, d, e]
  omega
set_option maxRecDepth 65536 in
set_option maxHeartbeats 40000000 in
theorem c_valueOf (l : Launch) (Z : State) (a0 : Array Value) (hw : ∀ d ∈ tables_1, d.before a0 Z = true) (ac : Addr) (clc : Cell) (k1 : Int32) (h0 : Heap) (n0 : Nat) (Z0 : n0 ≤ h0.size) (B : own_B Z h0 ac clc) :
    own_M l Z (⟨"java/lang/Integer", "valueOf", "(I)Ljava/lang/Integer;"⟩ : MethodName) jdk_33_method_22_code 1 (some (.object "java/lang/Integer")) ⟨3, 1, 1, 48⟩ #[.int k1] h0 (fun v h L => ∃ r, v = some (.ref r) ∧ Fr n0 L ∧ Ext h0 h ∧ Exa Z h r "java/lang/Integer") := by
  refine own_body pn_1 ?_
  intro p e s m below meth c T0 hx hby hml hlk hown hret hnm hH hnamed X0 e0
  have hZ := hH.wide
  replace hown : s.vm.findClass "java/lang/Integer" = some m.cls := hown
  replace hml : c.maxLocals = 1 := hml
  obtain ⟨S_h, S_c, A_c, Z_c, H_c⟩ := id B
  have N0 := Fr.nil n0
  have ef : entryFrame m #[.int k1] 1 = (mkF m 0 #[.val (.int k1)] []) := by first | (simp [entryFrame, mkF, argsToLocals, Value.category]; done) | rfl
  rw [ef]
  refine own_go (fun t k => XS.iloadN X0.here hx rfl (hb hby d1_0) rfl k) ?_
  show own_G p e below _ T0 (mkF m 1 #[.val (.int k1)] [(.int k1)])
  refine own_go (fun t k => XS.bipush X0.here hx rfl (hb hby d1_1) k) ?_
  show own_G p e below _ T0 (mkF m 3 #[.val (.int k1)] [(.int (-128 : Int32)), (.int k1)])
  by_cases hc1 : k1 < (-128 : Int32)
  ·
    refine own_go (fun t k => XS.icmpYes X0.here hx rfl (pc0 := 3) (pc' := 23) rfl (hb hby d1_3) rfl (Jvm.Free.XT.ii_lt_t hc1) (by decide) (by decide) k) ?_
    show own_G p e below _ T0 (mkF m 23 #[.val (.int k1)] [])
    obtain ⟨T2, h2, X2, e2, E2, A2, D2, -, st2⟩ := newO X0 hx hZ hown (hw _ (List.mem_of_getElem? (i := 53) rfl)) (hw _ (List.mem_of_getElem? (i := 54) rfl)) (hw _ (List.mem_of_getElem? (i := 2) rfl)) e0 (g := (mkF m 23 #[.val (.int k1)] [])) rfl (hb hby d1_23) (by decide) (by decide)
    have F2 : Fld Z h2 h0.size "java/lang/Integer" "value" "I" (.int (0 : Int32)) := D2 (Or.inr (hw _ (List.mem_of_getElem? (i := 67) rfl))) (ty := .int) (by decide)
    refine own_go st2 ?_
    show own_G p e below _ T2 (mkF m 26 #[.val (.int k1)] [(.ref h0.size)])
    refine own_go (fun t k => XS.dup X2.here hx rfl (hb hby d1_26) rfl rfl k) ?_
    show own_G p e below _ T2 (mkF m 27 #[.val (.int k1)] [(.ref h0.size), (.ref h0.size)])
    refine own_go (fun t k => XS.iloadN X2.here hx rfl (hb hby d1_27) rfl k) ?_
    show own_G p e below _ T2 (mkF m 28 #[.val (.int k1)] [(.int k1), (.ref h0.size), (.ref h0.size)])
    obtain ⟨T3, L3, v3, X3, ⟨rfl, Nq3, Kq3⟩, st3⟩ := own_callN X2 hx hH (y := (⟨"java/lang/Integer", "<init>", "(I)V"⟩ : MethodName)) rfl hown (hw _ (List.mem_of_getElem? (i := 55) rfl)) (hw _ (List.mem_of_getElem? (i := 56) rfl)) (hw _ (List.mem_of_getElem? (i := 58) rfl)) (hw _ (List.mem_of_getElem? (i := 2) rfl)) (by decide) (c_iinit l Z a0 hw h0.size k1 h2 n0 (Nat.le_trans Z0 E2.1) A2 F2 Z0) e2 (argsL := [(.int k1)]) (rest := [(.ref h0.size)]) (g := (mkF m 28 #[.val (.int k1)] [(.int k1), (.ref h0.size), (.ref h0.size)])) rfl (by rw [hml]; rfl) (ps := [.int]) (r := none) (by decide +kernel) rfl rfl (W := 1) (by show 2 * 0 + _ ≤ _; exact Nat.le_of_eq rfl) (hb hby d1_28) (by decide) (by decide) (by decide) (by decide)
    have x3 := own_ext_keep E2 Kq3 (allS (Nat.le_refl _) all0)
    have ex3 := A2.keep Kq3
    have N3 := Fr.app N0 Nq3
    refine own_go st3 ?_
    show own_G p e below _ T3 (mkF m 31 #[.val (.int k1)] [(.ref h0.size)])
    exact own_retA X3 hx hlk hret rfl rfl (hb hby d1_31) (by decide) (by decide) ⟨_, rfl, N3, x3, ex3⟩
  ·
    refine own_go (fun t k => XS.icmpNo X0.here hx rfl (hb hby d1_3) rfl (Jvm.Free.XT.ii_lt_f hc1) k) ?_
    show own_G p e below _ T0 (mkF m 6 #[.val (.int k1)] [])
    refine own_go (fun t k => XS.iloadN X0.here hx rfl (hb hby d1_6) rfl k) ?_
    show own_G p e below _ T0 (mkF m 7 #[.val (.int k1)] [(.int k1)])
    obtain ⟨T4, X4, e4, st4⟩ := getS X0 hx hZ hown (host := "") (hw _ (List.mem_of_getElem? (i := 4) rfl)) Via.refl e0 S_h (g := (mkF m 7 #[.val (.int k1)] [(.int k1)])) rfl (hb hby d1_7)
    refine own_go st4 ?_
    show own_G p e below _ T4 (mkF m 10 #[.val (.int k1)] [(.int (127 : Int32)), (.int k1)])
    by_cases hc5 : (127 : Int32) < k1
    ·
      refine own_go (fun t k => XS.icmpYes X4.here hx rfl (pc0 := 10) (pc' := 23) rfl (hb hby d1_10) rfl (Jvm.Free.XT.ii_gt_t hc5) (by decide) (by decide) k) ?_
      show own_G p e below _ T4 (mkF m 23 #[.val (.int k1)] [])
      obtain ⟨T6, h6, X6, e6, E6, A6, D6, -, st6⟩ := newO X4 hx hZ hown (hw _ (List.mem_of_getElem? (i := 53) rfl)) (hw _ (List.mem_of_getElem? (i := 54) rfl)) (hw _ (List.mem_of_getElem? (i := 2) rfl)) e4 (g := (mkF m 23 #[.val (.int k1)] [])) rfl (hb hby d1_23) (by decide) (by decide)
      have F6 : Fld Z h6 h0.size "java/lang/Integer" "value" "I" (.int (0 : Int32)) := D6 (Or.inr (hw _ (List.mem_of_getElem? (i := 67) rfl))) (ty := .int) (by decide)
      refine own_go st6 ?_
      show own_G p e below _ T6 (mkF m 26 #[.val (.int k1)] [(.ref h0.size)])
      refine own_go (fun t k => XS.dup X6.here hx rfl (hb hby d1_26) rfl rfl k) ?_
      show own_G p e below _ T6 (mkF m 27 #[.val (.int k1)] [(.ref h0.size), (.ref h0.size)])
      refine own_go (fun t k => XS.iloadN X6.here hx rfl (hb hby d1_27) rfl k) ?_
      show own_G p e below _ T6 (mkF m 28 #[.val (.int k1)] [(.int k1), (.ref h0.size), (.ref h0.size)])
      obtain ⟨T7, L7, v7, X7, ⟨rfl, Nq7, Kq7⟩, st7⟩ := own_callN X6 hx hH (y := (⟨"java/lang/Integer", "<init>", "(I)V"⟩ : MethodName)) rfl hown (hw _ (List.mem_of_getElem? (i := 55) rfl)) (hw _ (List.mem_of_getElem? (i := 56) rfl)) (hw _ (List.mem_of_getElem? (i := 58) rfl)) (hw _ (List.mem_of_getElem? (i := 2) rfl)) (by decide) (c_iinit l Z a0 hw h0.size k1 h6 n0 (Nat.le_trans Z0 E6.1) A6 F6 Z0) e6 (argsL := [(.int k1)]) (rest := [(.ref h0.size)]) (g := (mkF m 28 #[.val (.int k1)] [(.int k1), (.ref h0.size), (.ref h0.size)])) rfl (by rw [hml]; rfl) (ps := [.int]) (r := none) (by decide +kernel) rfl rfl (W := 1) (by show 2 * 0 + _ ≤ _; exact Nat.le_of_eq rfl) (hb hby d1_28) (by decide) (by decide) (by decide) (by decide)
      have x7 := own_ext_keep E6 Kq7 (allS (Nat.le_refl _) all0)
      have ex7 := A6.keep Kq7
      have N7 := Fr.app N0 Nq7
      refine own_go st7 ?_
      show own_G p e below _ T7 (mkF m 31 #[.val (.int k1)] [(.ref h0.size)])
      exact own_retA X7 hx hlk hret rfl rfl (hb hby d1_31) (by decide) (by decide) ⟨_, rfl, N7, x7, ex7⟩
    ·
      refine own_go (fun t k => XS.icmpNo X4.here hx rfl (hb hby d1_10) rfl (Jvm.Free.XT.ii_gt_f hc5) k) ?_
      show own_G p e below _ T4 (mkF m 13 #[.val (.int k1)] [])
      obtain ⟨T8, X8, e8, st8⟩ := getS X4 hx hZ hown (host := "") (hw _ (List.mem_of_getElem? (i := 6) rfl)) Via.refl e4 S_c (g := (mkF m 13 #[.val (.int k1)] [])) rfl (hb hby d1_13)
      refine own_go st8 ?_
      show own_G p e below _ T8 (mkF m 16 #[.val (.int k1)] [(.ref ac)])
      refine own_go (fun t k => XS.iloadN X8.here hx rfl (hb hby d1_16) rfl k) ?_
      show own_G p e below _ T8 (mkF m 17 #[.val (.int k1)] [(.int k1), (.ref ac)])
      refine own_go (fun t k => XS.sipush X8.here hx rfl (hb hby d1_17) k) ?_
      show own_G p e below _ T8 (mkF m 20 #[.val (.int k1)] [(.int (128 : Int32)), (.int k1), (.ref ac)])
      refine own_go (fun t k => XS.iadd X8.here hx rfl (hb hby d1_20) rfl k) ?_
      show own_G p e below _ T8 (mkF m 21 #[.val (.int k1)] [(.int (k1 + (128 : Int32))), (.ref ac)])
      have ij9 := own_idx hc1 hc5
      obtain ⟨r9, hr9, er9⟩ := H_c _ ij9.2
      refine own_go (X8.aaload hx (j := (k1 + (128 : Int32))) (v := .ref r9) (own_cellAt e8 A_c) (State.isArrayOf_alike hZ.alike A_c.2.1) rfl A_c.2.2 (by rw [Z_c]; exact ij9.1) hr9 (g := (mkF m 21 #[.val (.int k1)] [(.int (k1 + (128 : Int32))), (.ref ac)])) rfl rfl (hb hby d1_21)) ?_
      show own_G p e below _ T8 (mkF m 22 #[.val (.int k1)] [(.ref r9)])
      exact own_retA X8 hx hlk hret rfl rfl (hb hby d1_22) (by decide) (by decide) ⟨r9, rfl, N0, own_ext_eq (own_ext_refl _) e8, (by rw [e8]; exact er9)⟩
theorem pn_0 : plainFor x = true := by first | exact plainFor_of_name (by first | (simp [plainName, overriddenIn]; done) | decide +kernel) | decide +kernel
set_option maxRecDepth 65536 in
set_option maxHeartbeats 40000000 in
theorem rm0 (l : Launch) (Z : State) (a0 : Array Value) (hw : ∀ d ∈ tables_1, d.before a0 Z = true) (i0 i1 i2 i3 : Int32) (ac : Addr) (clc : Cell) (h0 : Heap) (n0 : Nat) (Z0 : n0 ≤ h0.size) (B : own_B Z h0 ac clc) :
    own_M l Z x code maxLocals ret room_1 #[.int i0, .int i1, .int i2, .int i3] h0 (fun v h L => v = some (.int 1) ∧ Fr n0 L) := by
  refine own_body pn_0 ?_
  intro p e s m below meth c T0 hx hby hml hlk hown hret hnm hH hnamed X0 e0
  have hZ := hH.wide
  replace hown : s.vm.findClass "com/example/halyard/halyard/engine/OperandStackPopPinLaw" = some m.cls := hown
  replace hml : c.maxLocals = 12 := hml
  replace hret : meth.sig.returnType = some .boolean := hret
  obtain ⟨S_h, S_c, A_c, Z_c, H_c⟩ := id B
  have N0 := Fr.nil n0
  have ef : entryFrame m #[.int i0, .int i1, .int i2, .int i3] maxLocals = (mkF m 0 #[.val (.int i0), .val (.int i1), .val (.int i2), .val (.int i3), .unset, .unset, .unset, .unset, .unset, .unset, .unset, .unset] []) := by first | (simp [entryFrame, mkF, argsToLocals, Value.category, maxLocals]; done) | rfl
  rw [ef]
  refine own_go (fun t k => XS.iloadN X0.here hx rfl (hb hby at_0) rfl k) ?_
  show own_G p e below _ T0 (mkF m 1 #[.val (.int i0), .val (.int i1), .val (.int i2), .val (.int i3), .unset, .unset, .unset, .unset, .unset, .unset, .unset, .unset] [(.int i3)])
  refine own_go (fun t k => XS.iconst X0.here hx rfl (hb hby at_1) k) ?_
  show own_G p e below _ T0 (mkF m 2 #[.val (.int i0), .val (.int i1), .val (.int i2), .val (.int i3), .unset, .unset, .unset, .unset, .unset, .unset, .unset, .unset] [(.int (1 : Int32)), (.int i3)])
  refine own_go (fun t k => XS.iand X0.here hx rfl (hb hby at_2) rfl k) ?_
  show own_G p e below _ T0 (mkF m 3 #[.val (.int i0), .val (.int i1), .val (.int i2), .val (.int i3), .unset, .unset, .unset, .unset, .unset, .unset, .unset, .unset] [(.int (i3 &&& (1 : Int32)))])
  by_cases hc1 : (i3 &&& (1 : Int32)) = (0 : Int32)
  ·
    refine own_go (fun t k => XS.ifYes X0.here hx rfl (pc0 := 3) (pc' := 10) rfl (hb hby at_3) rfl (Jvm.Free.XT.i0_eq_t hc1) (by decide) (by decide) k) ?_
    show own_G p e below _ T0 (mkF m 10 #[.val (.int i0), .val (.int i1), .val (.int i2), .val (.int i3), .unset, .unset, .unset, .unset, .unset, .unset, .unset, .unset] [])
    refine own_go (fun t k => XS.iloadN X0.here hx rfl (hb hby at_10) rfl k) ?_
    show own_G p e below _ T0 (mkF m 11 #[.val (.int i0), .val (.int i1), .val (.int i2), .val (.int i3), .unset, .unset, .unset, .unset, .unset, .unset, .unset, .unset] [(.int i0)])
    obtain ⟨T2, L2, v2, X2, ⟨r2, rfl, Nq2, q2, ei2⟩, st2⟩ := own_callS X0 hx hH (y := (⟨"java/lang/Integer", "valueOf", "(I)Ljava/lang/Integer;"⟩ : MethodName)) hown (hw _ (List.mem_of_getElem? (i := 0) rfl)) (hw _ (List.mem_of_getElem? (i := 1) rfl)) (hw _ (List.mem_of_getElem? (i := 2) rfl)) (hw _ (List.mem_of_getElem? (i := 3) rfl)) (by decide) (c_valueOf l Z a0 hw ac clc i0 h0 n0 Z0 B) e0 (argsL := [(.int i0)]) (rest := []) (g := (mkF m 11 #[.val (.int i0), .val (.int i1), .val (.int i2), .val (.int i3), .unset, .unset, .unset, .unset, .unset, .unset, .unset, .unset] [(.int i0)])) rfl (by rw [hml]; rfl) (ps := [.int]) (r := (some (.object "java/lang/Integer"))) (by decide +kernel) rfl rfl (W := 0) (by show 2 * 0 + _ ≤ _; exact Nat.le_of_eq rfl) (hb hby at_11) (by decide) (by decide) (by decide) (by decide)
    have N2 := Fr.app N0 Nq2
    refine own_go st2 ?_
    show own_G p e below _ T2 (mkF m 14 #[.val (.int i0), .val (.int i1), .val (.int i2), .val (.int i3), .unset, .unset, .unset, .unset, .unset, .unset, .unset, .unset] [(.ref r2)])
    refine own_go (fun t k => XS.astore X2.here hx rfl (hb hby at_14) rfl rfl (l' := #[.val (.int i0), .val (.int i1), .val (.int i2), .val (.int i3), .val (.ref r2), .unset, .unset, .unset, .unset, .unset, .unset, .unset]) rfl k) ?_
    show own_G p e below _ T2 (mkF m 16 #[.val (.int i0), .val (.int i1), .val (.int i2), .val (.int i3), .val (.ref r2), .unset, .unset, .unset, .unset, .unset, .unset, .unset] [])
    refine own_go (fun t k => XS.iloadN X2.here hx rfl (hb hby at_16) rfl k) ?_
    show own_G p e below _ T2 (mkF m 17 #[.val (.int i0), .val (.int i1), .val (.int i2), .val (.int i3), .val (.ref r2), .unset, .unset, .unset, .unset, .unset, .unset, .unset] [(.int i1)])
    obtain ⟨T3, L3, v3, X3, ⟨r3, rfl, Nq3, q3, ei3⟩, st3⟩ := own_callS X2 hx hH (y := (⟨"java/lang/Integer", "valueOf", "(I)Ljava/lang/Integer;"⟩ : MethodName)) hown (hw _ (List.mem_of_getElem? (i := 0) rfl)) (hw _ (List.mem_of_getElem? (i := 1) rfl)) (hw _ (List.mem_of_getElem? (i := 2) rfl)) (hw _ (List.mem_of_getElem? (i := 3) rfl)) (by decide) (c_valueOf l Z a0 hw ac clc i1 T2.heap n0 (Nat.le_trans Z0 q2.1) (own_B_ext q2 B)) rfl (argsL := [(.int i1)]) (rest := []) (g := (mkF m 17 #[.val (.int i0), .val (.int i1), .val (.int i2), .val (.int i3), .val (.ref r2), .unset, .unset, .unset, .unset, .unset, .unset, .unset] [(.int i1)])) rfl (by rw [hml]; rfl) (ps := [.int]) (r := (some (.object "java/lang/Integer"))) (by decide +kernel) rfl rfl (W := 0) (by show 2 * 0 + _ ≤ _; exact Nat.le_of_eq rfl) (hb hby at_17) (by decide) (by decide) (by decide) (by decide)
    have x3 := own_ext_trans q2 q3
    have ex4 := ei2.ext q3
    have N3 := Fr.app N2 Nq3
    refine own_go st3 ?_
    show own_G p e below _ T3 (mkF m 20 #[.val (.int i0), .val (.int i1), .val (.int i2), .val (.int i3), .val (.ref r2), .unset, .unset, .unset, .unset, .unset, .unset, .unset] [(.ref r3)])
    refine own_go (fun t k => XS.astore X3.here hx rfl (hb hby at_20) rfl rfl (l' := #[.val (.int i0), .val (.int i1), .val (.int i2), .val (.int i3), .val (.ref r2), .val (.ref r3), .unset, .unset, .unset, .unset, .unset, .unset]) rfl k) ?_
    show own_G p e below _ T3 (mkF m 22 #[.val (.int i0), .val (.int i1), .val (.int i2), .val (.int i3), .val (.ref r2), .val (.ref r3), .unset, .unset, .unset, .unset, .unset, .unset] [])
    refine own_go (fun t k => XS.iloadN X3.here hx rfl (hb hby at_22) rfl k) ?_
    show own_G p e below _ T3 (mkF m 23 #[.val (.int i0), .val (.int i1), .val (.int i2), .val (.int i3), .val (.ref r2), .val (.ref r3), .unset, .unset, .unset, .unset, .unset, .unset] [(.int i3)])
    refine own_go (fun t k => XS.iconst X3.here hx rfl (hb hby at_23) k) ?_
    show own_G p e below _ T3 (mkF m 24 #[.val (.int i0), .val (.int i1), .val (.int i2), .val (.int i3), .val (.ref r2), .val (.ref r3), .unset, .unset, .unset, .unset, .unset, .unset] [(.int (2 : Int32)), (.int i3)])
    refine own_go (fun t k => XS.iand X3.here hx rfl (hb hby at_24) rfl k) ?_
    show own_G p e below _ T3 (mkF m 25 #[.val (.int i0), .val (.int i1), .val (.int i2), .val (.int i3), .val (.ref r2), .val (.ref r3), .unset, .unset, .unset, .unset, .unset, .unset] [(.int (i3 &&& (2 : Int32)))])
    by_cases hc5 : (i3 &&& (2 : Int32)) = (0 : Int32)
    ·
      refine own_go (fun t k => XS.ifYes X3.here hx rfl (pc0 := 25) (pc' := 32) rfl (hb hby at_25) rfl (Jvm.Free.XT.i0_eq_t hc5) (by decide) (by decide) k) ?_
      show own_G p e below _ T3 (mkF m 32 #[.val (.int i0), .val (.int i1), .val (.int i2), .val (.int i3), .val (.ref r2), .val (.ref r3), .unset, .unset, .unset, .unset, .unset, .unset] [])
      refine own_go (fun t k => XS.iloadN X3.here hx rfl (hb hby at_32) rfl k) ?_
      show own_G p e below _ T3 (mkF m 33 #[.val (.int i0), .val (.int i1), .val (.int i2), .val (.int i3), .val (.ref r2), .val (.ref r3), .unset, .unset, .unset, .unset, .unset, .unset] [(.int i2)])
      obtain ⟨T6, L6, v6, X6, ⟨r6, rfl, Nq6, q6, ei6⟩, st6⟩ := own_callS X3 hx hH (y := (⟨"java/lang/Integer", "valueOf", "(I)Ljava/lang/Integer;"⟩ : MethodName)) hown (hw _ (List.mem_of_getElem? (i := 0) rfl)) (hw _ (List.mem_of_getElem? (i := 1) rfl)) (hw _ (List.mem_of_getElem? (i := 2) rfl)) (hw _ (List.mem_of_getElem? (i := 3) rfl)) (by decide) (c_valueOf l Z a0 hw ac clc i2 T3.heap n0 (Nat.le_trans Z0 x3.1) (own_B_ext x3 B)) rfl (argsL := [(.int i2)]) (rest := []) (g := (mkF m 33 #[.val (.int i0), .val (.int i1), .val (.int i2), .val (.int i3), .val (.ref r2), .val (.ref r3), .unset, .unset, .unset, .unset, .unset, .unset] [(.int i2)])) rfl (by rw [hml]; rfl) (ps := [.int]) (r := (some (.object "java/lang/Integer"))) (by decide +kernel) rfl rfl (W := 0) (by show 2 * 0 + _ ≤ _; exact Nat.le_of_eq rfl) (hb hby at_33) (by decide) (by decide) (by decide) (by decide)
      have x6 := own_ext_trans x3 q6
      have ex7 := ex4.ext q6
      have ex8 := ei3.ext q6
      have N6 := Fr.app N3 Nq6
      refine own_go st6 ?_
      show own_G p e below _ T6 (mkF m 36 #[.val (.int i0), .val (.int i1), .val (.int i2), .val (.int i3), .val (.ref r2), .val (.ref r3), .unset, .unset, .unset, .unset, .unset, .unset] [(.ref r6)])
      refine own_go (fun t k => XS.astore X6.here hx rfl (hb hby at_36) rfl rfl (l' := #[.val (.int i0), .val (.int i1), .val (.int i2), .val (.int i3), .val (.ref r2), .val (.ref r3), .val (.ref r6), .unset, .unset, .unset, .unset, .unset]) rfl k) ?_
      show own_G p e below _ T6 (mkF m 38 #[.val (.int i0), .val (.int i1), .val (.int i2), .val (.int i3), .val (.ref r2), .val (.ref r3), .val (.ref r6), .unset, .unset, .unset, .unset, .unset] [])
      obtain ⟨T9, h9, X9, e9, E9, A9, D9, -, st9⟩ := newO X6 hx hZ hown (hw _ (List.mem_of_getElem? (i := 7) rfl)) (hw _ (List.mem_of_getElem? (i := 8) rfl)) (hw _ (List.mem_of_getElem? (i := 9) rfl)) rfl (g := (mkF m 38 #[.val (.int i0), .val (.int i1), .val (.int i2), .val (.int i3), .val (.ref r2), .val (.ref r3), .val (.ref r6), .unset, .unset, .unset, .unset, .unset] [])) rfl (hb hby at_38) (by decide) (by decide)
      obtain ⟨s1, gs⟩ : ∃ z, z = T6.heap.size := ⟨_, rfl⟩
      rw [← gs] at A9 D9 st9
      have F1 : Fld Z h9 s1 own_K "values" "[Ljava/lang/Object;" .null := D9 (Or.inl (hw _ (List.mem_of_getElem? (i := 19) rfl))) (ty := .array (.object "java/lang/Object")) (by decide +kernel)
      have F2 : Fld Z h9 s1 own_K "size" "I" (.int (0 : Int32)) := D9 (Or.inl (hw _ (List.mem_of_getElem? (i := 26) rfl))) (ty := .int) (by decide)
      have x9 : Ext h0 h9 := own_ext_trans x6 E9
      have js : h0.size ≤ s1 := Nat.le_trans x6.1 (Nat.le_of_eq gs.symm)
      have ex10 := ex7.ext E9
      have ex11 := ex8.ext E9
      have ex12 := ei6.ext E9
      have g1 : n0 ≤ s1 := Nat.le_trans Z0 js
      refine own_go st9 ?_
      show own_G p e below _ T9 (mkF m 41 #[.val (.int i0), .val (.int i1), .val (.int i2), .val (.int i3), .val (.ref r2), .val (.ref r3), .val (.ref r6), .unset, .unset, .unset, .unset, .unset] [(.ref s1)])
      refine own_go (fun t k => XS.dup X9.here hx rfl (hb hby at_41) rfl rfl k) ?_
      show own_G p e below _ T9 (mkF m 42 #[.val (.int i0), .val (.int i1), .val (.int i2), .val (.int i3), .val (.ref r2), .val (.ref r3), .val (.ref r6), .unset, .unset, .unset, .unset, .unset] [(.ref s1), (.ref s1)])
      obtain ⟨T13, L13, v13, X13, ⟨rfl, Nq13, Kq13, Sq13⟩, st13⟩ := own_callN X9 hx hH (y := (⟨"com/example/halyard/halyard/engine/OperandStack", "<init>", "()V"⟩ : MethodName)) rfl hown (hw _ (List.mem_of_getElem? (i := 10) rfl)) (hw _ (List.mem_of_getElem? (i := 11) rfl)) (hw _ (List.mem_of_getElem? (i := 12) rfl)) (hw _ (List.mem_of_getElem? (i := 9) rfl)) (by decide) (c_init l Z a0 hw s1 h9 n0 (Nat.le_trans Z0 x9.1) A9 F1 F2 g1) e9 (argsL := []) (rest := [(.ref s1)]) (g := (mkF m 42 #[.val (.int i0), .val (.int i1), .val (.int i2), .val (.int i3), .val (.ref r2), .val (.ref r3), .val (.ref r6), .unset, .unset, .unset, .unset, .unset] [(.ref s1), (.ref s1)])) rfl (by rw [hml]; rfl) (ps := []) (r := none) (by decide +kernel) rfl rfl (W := 1) (by show 2 * 0 + _ ≤ _; exact Nat.le_of_eq rfl) (hb hby at_42) (by decide) (by decide) (by decide) (by decide)
      obtain ⟨ar, ga⟩ : ∃ z, z = h9.size := ⟨_, rfl⟩
      rw [← ga] at Sq13
      have ja : h0.size ≤ ar := Nat.le_trans x9.1 (Nat.le_of_eq ga.symm)
      have g2 : n0 ≤ ar := Nat.le_trans Z0 ja
      have x13 := own_ext_keep x9 Kq13 (allS js all0)
      have ex14 := ex10.keep Kq13
      have ex15 := ex11.keep Kq13
      have ex16 := ex12.keep Kq13
      have N13 := Fr.app N6 Nq13
      refine own_go st13 ?_
      show own_G p e below _ T13 (mkF m 45 #[.val (.int i0), .val (.int i1), .val (.int i2), .val (.int i3), .val (.ref r2), .val (.ref r3), .val (.ref r6), .unset, .unset, .unset, .unset, .unset] [(.ref s1)])
      refine own_go (fun t k => XS.astore X13.here hx rfl (hb hby at_45) rfl rfl (l' := #[.val (.int i0), .val (.int i1), .val (.int i2), .val (.int i3), .val (.ref r2), .val (.ref r3), .val (.ref r6), .val (.ref s1), .unset, .unset, .unset, .unset]) rfl k) ?_
      show own_G p e below _ T13 (mkF m 47 #[.val (.int i0), .val (.int i1), .val (.int i2), .val (.int i3), .val (.ref r2), .val (.ref r3), .val (.ref r6), .val (.ref s1), .unset, .unset, .unset, .unset] [])
      refine own_go (fun t k => XS.aload X13.here hx rfl (hb hby at_47) rfl rfl k) ?_
      show own_G p e below _ T13 (mkF m 49 #[.val (.int i0), .val (.int i1), .val (.int i2), .val (.int i3), .val (.ref r2), .val (.ref r3), .val (.ref r6), .val (.ref s1), .unset, .unset, .unset, .unset] [(.ref s1)])
      refine own_go (fun t k => XS.aload X13.here hx rfl (hb hby at_49) rfl rfl k) ?_
      show own_G p e below _ T13 (mkF m 51 #[.val (.int i0), .val (.int i1), .val (.int i2), .val (.int i3), .val (.ref r2), .val (.ref r3), .val (.ref r6), .val (.ref s1), .unset, .unset, .unset, .unset] [(.ref r2), (.ref s1)])
      obtain ⟨T17, L17, v17, X17, ⟨rfl, Nq17, Kq17, Sq17⟩, st17⟩ := own_callV X13 hx hH (y := (⟨"com/example/halyard/halyard/engine/OperandStack", "push", "(Ljava/lang/Object;)V"⟩ : MethodName)) (z := (⟨"com/example/halyard/halyard/engine/OperandStack", "push", "(Ljava/lang/Object;)V"⟩ : MethodName)) hown (hw _ (List.mem_of_getElem? (i := 20) rfl)) (hw _ (List.mem_of_getElem? (i := 21) rfl)) (hw _ (List.mem_of_getElem? (i := 23) rfl)) (hw _ (List.mem_of_getElem? (i := 23) rfl)) (hw _ (List.mem_of_getElem? (i := 22) rfl)) (hw _ (List.mem_of_getElem? (i := 24) rfl)) (hw _ (List.mem_of_getElem? (i := 9) rfl)) (notFace_of_selects (args := #[]) (mvT hZ (hw _ (List.mem_of_getElem? (i := 23) rfl)))) (by decide) (c_push_0A l Z a0 hw s1 ar r2 .null .null .null .null T13.heap n0 (Nat.le_trans Z0 x13.1) Sq13 (own_ST_sto Sq13 (Ins.of_exa ex14 (hw _ (List.mem_of_getElem? (i := 27) rfl)))) g1 g2) rfl Sq13.1 (argsL := [(.ref r2)]) (rest := []) (g := (mkF m 51 #[.val (.int i0), .val (.int i1), .val (.int i2), .val (.int i3), .val (.ref r2), .val (.ref r3), .val (.ref r6), .val (.ref s1), .unset, .unset, .unset, .unset] [(.ref r2), (.ref s1)])) rfl (by rw [hml]; rfl) (ps := [(.object "java/lang/Object")]) (r := none) (by decide +kernel) rfl rfl (W := 0) (by show 2 * 0 + _ ≤ _; exact Nat.le_of_eq rfl) (hb hby at_51) (by decide) (by decide) (by decide) (by decide)
      have x17 := own_ext_keep x13 Kq17 (allS js (allS ja all0))
      have ex18 := ex14.keep Kq17
      have ex19 := ex15.keep Kq17
      have ex20 := ex16.keep Kq17
      have N17 := Fr.app N13 Nq17
      refine own_go st17 ?_
      show own_G p e below _ T17 (mkF m 54 #[.val (.int i0), .val (.int i1), .val (.int i2), .val (.int i3), .val (.ref r2), .val (.ref r3), .val (.ref r6), .val (.ref s1), .unset, .unset, .unset, .unset] [])
      refine own_go (fun t k => XS.aload X17.here hx rfl (hb hby at_54) rfl rfl k) ?_
      show own_G p e below _ T17 (mkF m 56 #[.val (.int i0), .val (.int i1), .val (.int i2), .val (.int i3), .val (.ref r2), .val (.ref r3), .val (.ref r6), .val (.ref s1), .unset, .unset, .unset, .unset] [(.ref s1)])
      refine own_go (fun t k => XS.aload X17.here hx rfl (hb hby at_56) rfl rfl k) ?_
      show own_G p e below _ T17 (mkF m 58 #[.val (.int i0), .val (.int i1), .val (.int i2), .val (.int i3), .val (.ref r2), .val (.ref r3), .val (.ref r6), .val (.ref s1), .unset, .unset, .unset, .unset] [(.ref r3), (.ref s1)])
      obtain ⟨T21, L21, v21, X21, ⟨rfl, Nq21, Kq21, Sq21⟩, st21⟩ := own_callV X17 hx hH (y := (⟨"com/example/halyard/halyard/engine/OperandStack", "push", "(Ljava/lang/Object;)V"⟩ : MethodName)) (z := (⟨"com/example/halyard/halyard/engine/OperandStack", "push", "(Ljava/lang/Object;)V"⟩ : MethodName)) hown (hw _ (List.mem_of_getElem? (i := 20) rfl)) (hw _ (List.mem_of_getElem? (i := 21) rfl)) (hw _ (List.mem_of_getElem? (i := 23) rfl)) (hw _ (List.mem_of_getElem? (i := 23) rfl)) (hw _ (List.mem_of_getElem? (i := 22) rfl)) (hw _ (List.mem_of_getElem? (i := 24) rfl)) (hw _ (List.mem_of_getElem? (i := 9) rfl)) (notFace_of_selects (args := #[]) (mvT hZ (hw _ (List.mem_of_getElem? (i := 23) rfl)))) (by decide) (c_push_1A l Z a0 hw s1 ar r3 (.ref r2) .null .null .null T17.heap n0 (Nat.le_trans Z0 x17.1) Sq17 (own_ST_sto Sq17 (Ins.of_exa ex19 (hw _ (List.mem_of_getElem? (i := 27) rfl)))) g1 g2) rfl Sq17.1 (argsL := [(.ref r3)]) (rest := []) (g := (mkF m 58 #[.val (.int i0), .val (.int i1), .val (.int i2), .val (.int i3), .val (.ref r2), .val (.ref r3), .val (.ref r6), .val (.ref s1), .unset, .unset, .unset, .unset] [(.ref r3), (.ref s1)])) rfl (by rw [hml]; rfl) (ps := [(.object "java/lang/Object")]) (r := none) (by decide +kernel) rfl rfl (W := 0) (by show 2 * 0 + _ ≤ _; exact Nat.le_of_eq rfl) (hb hby at_58) (by decide) (by decide) (by decide) (by decide)
      have x21 := own_ext_keep x17 Kq21 (allS js (allS ja all0))
      have ex22 := ex18.keep Kq21
      have ex23 := ex19.keep Kq21
      have ex24 := ex20.keep Kq21
      have N21 := Fr.app N17 Nq21
      refine own_go st21 ?_
      show own_G p e below _ T21 (mkF m 61 #[.val (.int i0), .val (.int i1), .val (.int i2), .val (.int i3), .val (.ref r2), .val (.ref r3), .val (.ref r6), .val (.ref s1), .unset, .unset, .unset, .unset] [])
      refine own_go (fun t k => XS.aload X21.here hx rfl (hb hby at_61) rfl rfl k) ?_
      show own_G p e below _ T21 (mkF m 63 #[.val (.int i0), .val (.int i1), .val (.int i2), .val (.int i3), .val (.ref r2), .val (.ref r3), .val (.ref r6), .val (.ref s1), .unset, .unset, .unset, .unset] [(.ref s1)])
      refine own_go (fun t k => XS.aload X21.here hx rfl (hb hby at_63) rfl rfl k) ?_
      show own_G p e below _ T21 (mkF m 65 #[.val (.int i0), .val (.int i1), .val (.int i2), .val (.int i3), .val (.ref r2), .val (.ref r3), .val (.ref r6), .val (.ref s1), .unset, .unset, .unset, .unset] [(.ref r6), (.ref s1)])
      obtain ⟨T25, L25, v25, X25, ⟨rfl, Nq25, Kq25, Sq25⟩, st25⟩ := own_callV X21 hx hH (y := (⟨"com/example/halyard/halyard/engine/OperandStack", "push", "(Ljava/lang/Object;)V"⟩ : MethodName)) (z := (⟨"com/example/halyard/halyard/engine/OperandStack", "push", "(Ljava/lang/Object;)V"⟩ : MethodName)) hown (hw _ (List.mem_of_getElem? (i := 20) rfl)) (hw _ (List.mem_of_getElem? (i := 21) rfl)) (hw _ (List.mem_of_getElem? (i := 23) rfl)) (hw _ (List.mem_of_getElem? (i := 23) rfl)) (hw _ (List.mem_of_getElem? (i := 22) rfl)) (hw _ (List.mem_of_getElem? (i := 24) rfl)) (hw _ (List.mem_of_getElem? (i := 9) rfl)) (notFace_of_selects (args := #[]) (mvT hZ (hw _ (List.mem_of_getElem? (i := 23) rfl)))) (by decide) (c_push_2A l Z a0 hw s1 ar r6 (.ref r2) (.ref r3) .null .null T21.heap n0 (Nat.le_trans Z0 x21.1) Sq21 (own_ST_sto Sq21 (Ins.of_exa ex24 (hw _ (List.mem_of_getElem? (i := 27) rfl)))) g1 g2) rfl Sq21.1 (argsL := [(.ref r6)]) (rest := []) (g := (mkF m 65 #[.val (.int i0), .val (.int i1), .val (.int i2), .val (.int i3), .val (.ref r2), .val (.ref r3), .val (.ref r6), .val (.ref s1), .unset, .unset, .unset, .unset] [(.ref r6), (.ref s1)])) rfl (by rw [hml]; rfl) (ps := [(.object "java/lang/Object")]) (r := none) (by decide +kernel) rfl rfl (W := 0) (by show 2 * 0 + _ ≤ _; exact Nat.le_of_eq rfl) (hb hby at_65) (by decide) (by decide) (by decide) (by decide)
      have x25 := own_ext_keep x21 Kq25 (allS js (allS ja all0))
      have ex26 := ex22.keep Kq25
      have ex27 := ex23.keep Kq25
      have ex28 := ex24.keep Kq25
      have N25 := Fr.app N21 Nq25
      refine own_go st25 ?_
      show own_G p e below _ T25 (mkF m 68 #[.val (.int i0), .val (.int i1), .val (.int i2), .val (.int i3), .val (.ref r2), .val (.ref r3), .val (.ref r6), .val (.ref s1), .unset, .unset, .unset, .unset] [])
      refine own_go (fun t k => XS.aload X25.here hx rfl (hb hby at_68) rfl rfl k) ?_
      show own_G p e below _ T25 (mkF m 70 #[.val (.int i0), .val (.int i1), .val (.int i2), .val (.int i3), .val (.ref r2), .val (.ref r3), .val (.ref r6), .val (.ref s1), .unset, .unset, .unset, .unset] [(.ref s1)])
      obtain ⟨T29, L29, v29, X29, ⟨rfl, Nq29, Kq29, Sq29⟩, st29⟩ := own_callV X25 hx hH (y := (⟨"com/example/halyard/halyard/engine/OperandStack", "pop", "()Ljava/lang/Object;"⟩ : MethodName)) (z := (⟨"com/example/halyard/halyard/engine/OperandStack", "pop", "()Ljava/lang/Object;"⟩ : MethodName)) hown (hw _ (List.mem_of_getElem? (i := 28) rfl)) (hw _ (List.mem_of_getElem? (i := 29) rfl)) (hw _ (List.mem_of_getElem? (i := 31) rfl)) (hw _ (List.mem_of_getElem? (i := 31) rfl)) (hw _ (List.mem_of_getElem? (i := 30) rfl)) (hw _ (List.mem_of_getElem? (i := 32) rfl)) (hw _ (List.mem_of_getElem? (i := 9) rfl)) (notFace_of_selects (args := #[]) (mvT hZ (hw _ (List.mem_of_getElem? (i := 31) rfl)))) (by decide) (c_pop_3 l Z a0 hw s1 ar (.ref r2) (.ref r3) (.ref r6) .null T25.heap n0 (Nat.le_trans Z0 x25.1) Sq25 rfl g1 g2) rfl Sq25.1 (argsL := []) (rest := []) (g := (mkF m 70 #[.val (.int i0), .val (.int i1), .val (.int i2), .val (.int i3), .val (.ref r2), .val (.ref r3), .val (.ref r6), .val (.ref s1), .unset, .unset, .unset, .unset] [(.ref s1)])) rfl (by rw [hml]; rfl) (ps := []) (r := (some (.object "java/lang/Object"))) (by decide +kernel) rfl rfl (W := 0) (by show 2 * 0 + _ ≤ _; exact Nat.le_of_eq rfl) (hb hby at_70) (by decide) (by decide) (by decide) (by decide)
      have x29 := own_ext_keep x25 Kq29 (allS js (allS ja all0))
      have ex30 := ex26.keep Kq29
      have ex31 := ex27.keep Kq29
      have ex32 := ex28.keep Kq29
      have N29 := Fr.app N25 Nq29
      refine own_go st29 ?_
      show own_G p e below _ T29 (mkF m 73 #[.val (.int i0), .val (.int i1), .val (.int i2), .val (.int i3), .val (.ref r2), .val (.ref r3), .val (.ref r6), .val (.ref s1), .unset, .unset, .unset, .unset] [(.ref r6)])
      refine own_go (fun t k => XS.astore X29.here hx rfl (hb hby at_73) rfl rfl (l' := #[.val (.int i0), .val (.int i1), .val (.int i2), .val (.int i3), .val (.ref r2), .val (.ref r3), .val (.ref r6), .val (.ref s1), .val (.ref r6), .unset, .unset, .unset]) rfl k) ?_
      show own_G p e below _ T29 (mkF m 75 #[.val (.int i0), .val (.int i1), .val (.int i2), .val (.int i3), .val (.ref r2), .val (.ref r3), .val (.ref r6), .val (.ref s1), .val (.ref r6), .unset, .unset, .unset] [])
      refine own_go (fun t k => XS.aload X29.here hx rfl (hb hby at_75) rfl rfl k) ?_
      show own_G p e below _ T29 (mkF m 77 #[.val (.int i0), .val (.int i1), .val (.int i2), .val (.int i3), .val (.ref r2), .val (.ref r3), .val (.ref r6), .val (.ref s1), .val (.ref r6), .unset, .unset, .unset] [(.ref s1)])
      refine own_go (fun t k => XS.iconst X29.here hx rfl (hb hby at_77) k) ?_
      show own_G p e below _ T29 (mkF m 78 #[.val (.int i0), .val (.int i1), .val (.int i2), .val (.int i3), .val (.ref r2), .val (.ref r3), .val (.ref r6), .val (.ref s1), .val (.ref r6), .unset, .unset, .unset] [(.int (1 : Int32)), (.ref s1)])
      refine own_go (fun t k => XS.iconst X29.here hx rfl (hb hby at_78) k) ?_
      show own_G p e below _ T29 (mkF m 79 #[.val (.int i0), .val (.int i1), .val (.int i2), .val (.int i3), .val (.ref r2), .val (.ref r3), .val (.ref r6), .val (.ref s1), .val (.ref r6), .unset, .unset, .unset] [(.int (1 : Int32)), (.int (1 : Int32)), (.ref s1)])
      obtain ⟨T33, L33, v33, X33, ⟨cK33, rfl, rfl, md33, q33⟩, st33⟩ := own_callV X29 hx hH (y := (⟨"com/example/halyard/halyard/engine/OperandStack", "operand", "(II)Lcom/example/halyard/halyard/engine/Code;"⟩ : MethodName)) (z := (⟨"com/example/halyard/halyard/engine/OperandStack", "operand", "(II)Lcom/example/halyard/halyard/engine/Code;"⟩ : MethodName)) hown (hw _ (List.mem_of_getElem? (i := 38) rfl)) (hw _ (List.mem_of_getElem? (i := 39) rfl)) (hw _ (List.mem_of_getElem? (i := 41) rfl)) (hw _ (List.mem_of_getElem? (i := 41) rfl)) (hw _ (List.mem_of_getElem? (i := 40) rfl)) (hw _ (List.mem_of_getElem? (i := 42) rfl)) (hw _ (List.mem_of_getElem? (i := 9) rfl)) (notFace_of_selects (args := #[]) (mvT hZ (hw _ (List.mem_of_getElem? (i := 41) rfl)))) (by decide) (c_operand l Z a0 hw s1 (1 : Int32) (1 : Int32) T29.heap) rfl Sq29.1 (argsL := [(.int (1 : Int32)), (.int (1 : Int32))]) (rest := []) (g := (mkF m 79 #[.val (.int i0), .val (.int i1), .val (.int i2), .val (.int i3), .val (.ref r2), .val (.ref r3), .val (.ref r6), .val (.ref s1), .val (.ref r6), .unset, .unset, .unset] [(.int (1 : Int32)), (.int (1 : Int32)), (.ref s1)])) rfl (by rw [hml]; rfl) (ps := [.int, .int]) (r := (some (.object "com/example/halyard/halyard/engine/Code"))) (by decide +kernel) rfl rfl (W := 0) (by show 2 * 0 + _ ≤ _; exact Nat.le_of_eq rfl) (hb hby at_79) (by decide) (by decide) (by decide) (by decide)
      have z33 : Ext T29.heap T33.heap := by rw [q33]; exact own_ext_push _ _
      have c33 : T33.heap[T29.heap.size]? = some { cls := cK33, slots := #[.ref s1, .int (1 : Int32), .int (1 : Int32)], vm := .none } := by rw [q33]; exact own_push_at _ _
      have x33 := own_ext_trans x29 z33
      have S33 := own_ST_ext z33 Sq29
      have ex34 := ex30.ext z33
      have ex35 := ex31.ext z33
      have ex36 := ex32.ext z33
      have N33 := Fr.app N29 (Fr.nil n0)
      refine own_go st33 ?_
      show own_G p e below _ T33 (mkF m 82 #[.val (.int i0), .val (.int i1), .val (.int i2), .val (.int i3), .val (.ref r2), .val (.ref r3), .val (.ref r6), .val (.ref s1), .val (.ref r6), .unset, .unset, .unset] [(.ref T29.heap.size)])
      refine own_go (fun t k => XS.aconstNull X33.here hx rfl (hb hby at_82) k) ?_
      show own_G p e below _ T33 (mkF m 83 #[.val (.int i0), .val (.int i1), .val (.int i2), .val (.int i3), .val (.ref r2), .val (.ref r3), .val (.ref r6), .val (.ref s1), .val (.ref r6), .unset, .unset, .unset] [.null, (.ref T29.heap.size)])
      obtain ⟨cB37, hB37, oB37⟩ := own_ST_cell S33
      obtain ⟨T37, X37, e37, st37⟩ := own_lam X33 hx hH (own := "com/example/halyard/halyard/engine/OperandStackPopPinLaw") (zz := ⟨"com/example/halyard/halyard/engine/OperandStack", "push", "(Ljava/lang/Object;)V"⟩) hown (hw _ (List.mem_of_getElem? (i := 47) rfl)) (hw _ (List.mem_of_getElem? (i := 48) rfl)) (hw _ (List.mem_of_getElem? (i := 49) rfl)) (hw _ (List.mem_of_getElem? (i := 50) rfl)) (hw _ (List.mem_of_getElem? (i := 51) rfl)) (hw _ (List.mem_of_getElem? (i := 52) rfl)) (hw _ (List.mem_of_getElem? (i := 9) rfl)) (hw _ (List.mem_of_getElem? (i := 23) rfl)) rfl (hw _ (List.mem_of_getElem? (i := 46) rfl)) md33 rfl c33 hB37 oB37 (w := .null) rfl (c_lam_2 l Z a0 hw s1 ar (2 : Int32) (1 : Int32) (1 : Int32) (.ref r2) (.ref r3) .null .null T33.heap S33 rfl (by decide)) rfl rfl (g := (mkF m 83 #[.val (.int i0), .val (.int i1), .val (.int i2), .val (.int i3), .val (.ref r2), .val (.ref r3), .val (.ref r6), .val (.ref s1), .val (.ref r6), .unset, .unset, .unset] [.null, (.ref T29.heap.size)])) rfl (by rw [hml]; rfl) (rest := []) rfl (hb hby at_83) (by decide) (by show 2 * 0 + 0 + (2 + 11) + ((4 + 11) + 0) ≤ 3216; decide) (by decide) (by decide)
      refine own_go st37 ?_
      show own_G p e below _ T37 (mkF m 88 #[.val (.int i0), .val (.int i1), .val (.int i2), .val (.int i3), .val (.ref r2), .val (.ref r3), .val (.ref r6), .val (.ref s1), .val (.ref r6), .unset, .unset, .unset] [.null])
      refine own_go (fun t k => XS.astore X37.here hx rfl (hb hby at_88) rfl rfl (l' := #[.val (.int i0), .val (.int i1), .val (.int i2), .val (.int i3), .val (.ref r2), .val (.ref r3), .val (.ref r6), .val (.ref s1), .val (.ref r6), .val .null, .unset, .unset]) rfl k) ?_
      show own_G p e below _ T37 (mkF m 90 #[.val (.int i0), .val (.int i1), .val (.int i2), .val (.int i3), .val (.ref r2), .val (.ref r3), .val (.ref r6), .val (.ref s1), .val (.ref r6), .val .null, .unset, .unset] [])
      refine own_go (fun t k => XS.aload X37.here hx rfl (hb hby at_90) rfl rfl k) ?_
      show own_G p e below _ T37 (mkF m 92 #[.val (.int i0), .val (.int i1), .val (.int i2), .val (.int i3), .val (.ref r2), .val (.ref r3), .val (.ref r6), .val (.ref s1), .val (.ref r6), .val .null, .unset, .unset] [(.ref s1)])
      obtain ⟨T38, L38, v38, X38, ⟨rfl, Nq38, Kq38, Sq38⟩, st38⟩ := own_callV X37 hx hH (y := (⟨"com/example/halyard/halyard/engine/OperandStack", "pop", "()Ljava/lang/Object;"⟩ : MethodName)) (z := (⟨"com/example/halyard/halyard/engine/OperandStack", "pop", "()Ljava/lang/Object;"⟩ : MethodName)) hown (hw _ (List.mem_of_getElem? (i := 28) rfl)) (hw _ (List.mem_of_getElem? (i := 29) rfl)) (hw _ (List.mem_of_getElem? (i := 31) rfl)) (hw _ (List.mem_of_getElem? (i := 31) rfl)) (hw _ (List.mem_of_getElem? (i := 30) rfl)) (hw _ (List.mem_of_getElem? (i := 32) rfl)) (hw _ (List.mem_of_getElem? (i := 9) rfl)) (notFace_of_selects (args := #[]) (mvT hZ (hw _ (List.mem_of_getElem? (i := 31) rfl)))) (by decide) (c_pop_2 l Z a0 hw s1 ar (.ref r2) (.ref r3) .null .null T33.heap n0 (Nat.le_trans Z0 x33.1) S33 rfl g1 g2) e37 S33.1 (argsL := []) (rest := []) (g := (mkF m 92 #[.val (.int i0), .val (.int i1), .val (.int i2), .val (.int i3), .val (.ref r2), .val (.ref r3), .val (.ref r6), .val (.ref s1), .val (.ref r6), .val .null, .unset, .unset] [(.ref s1)])) rfl (by rw [hml]; rfl) (ps := []) (r := (some (.object "java/lang/Object"))) (by decide +kernel) rfl rfl (W := 0) (by show 2 * 0 + _ ≤ _; exact Nat.le_of_eq rfl) (hb hby at_92) (by decide) (by decide) (by decide) (by decide)
      have x38 := own_ext_keep x33 Kq38 (allS js (allS ja all0))
      have ex39 := ex34.keep Kq38
      have ex40 := ex35.keep Kq38
      have ex41 := ex36.keep Kq38
      have N38 := Fr.app N33 Nq38
      refine own_go st38 ?_
      show own_G p e below _ T38 (mkF m 95 #[.val (.int i0), .val (.int i1), .val (.int i2), .val (.int i3), .val (.ref r2), .val (.ref r3), .val (.ref r6), .val (.ref s1), .val (.ref r6), .val .null, .unset, .unset] [(.ref r3)])
      refine own_go (fun t k => XS.astore X38.here hx rfl (hb hby at_95) rfl rfl (l' := #[.val (.int i0), .val (.int i1), .val (.int i2), .val (.int i3), .val (.ref r2), .val (.ref r3), .val (.ref r6), .val (.ref s1), .val (.ref r6), .val .null, .val (.ref r3), .unset]) rfl k) ?_
      show own_G p e below _ T38 (mkF m 97 #[.val (.int i0), .val (.int i1), .val (.int i2), .val (.int i3), .val (.ref r2), .val (.ref r3), .val (.ref r6), .val (.ref s1), .val (.ref r6), .val .null, .val (.ref r3), .unset] [])
      refine own_go (fun t k => XS.aload X38.here hx rfl (hb hby at_97) rfl rfl k) ?_
      show own_G p e below _ T38 (mkF m 99 #[.val (.int i0), .val (.int i1), .val (.int i2), .val (.int i3), .val (.ref r2), .val (.ref r3), .val (.ref r6), .val (.ref s1), .val (.ref r6), .val .null, .val (.ref r3), .unset] [(.ref s1)])
      refine own_go (fun t k => XS.iconst X38.here hx rfl (hb hby at_99) k) ?_
      show own_G p e below _ T38 (mkF m 100 #[.val (.int i0), .val (.int i1), .val (.int i2), .val (.int i3), .val (.ref r2), .val (.ref r3), .val (.ref r6), .val (.ref s1), .val (.ref r6), .val .null, .val (.ref r3), .unset] [(.int (0 : Int32)), (.ref s1)])
      refine own_go (fun t k => XS.iconst X38.here hx rfl (hb hby at_100) k) ?_
      show own_G p e below _ T38 (mkF m 101 #[.val (.int i0), .val (.int i1), .val (.int i2), .val (.int i3), .val (.ref r2), .val (.ref r3), .val (.ref r6), .val (.ref s1), .val (.ref r6), .val .null, .val (.ref r3), .unset] [(.int (1 : Int32)), (.int (0 : Int32)), (.ref s1)])
      obtain ⟨T42, L42, v42, X42, ⟨cK42, rfl, rfl, md42, q42⟩, st42⟩ := own_callV X38 hx hH (y := (⟨"com/example/halyard/halyard/engine/OperandStack", "operand", "(II)Lcom/example/halyard/halyard/engine/Code;"⟩ : MethodName)) (z := (⟨"com/example/halyard/halyard/engine/OperandStack", "operand", "(II)Lcom/example/halyard/halyard/engine/Code;"⟩ : MethodName)) hown (hw _ (List.mem_of_getElem? (i := 38) rfl)) (hw _ (List.mem_of_getElem? (i := 39) rfl)) (hw _ (List.mem_of_getElem? (i := 41) rfl)) (hw _ (List.mem_of_getElem? (i := 41) rfl)) (hw _ (List.mem_of_getElem? (i := 40) rfl)) (hw _ (List.mem_of_getElem? (i := 42) rfl)) (hw _ (List.mem_of_getElem? (i := 9) rfl)) (notFace_of_selects (args := #[]) (mvT hZ (hw _ (List.mem_of_getElem? (i := 41) rfl)))) (by decide) (c_operand l Z a0 hw s1 (0 : Int32) (1 : Int32) T38.heap) rfl Sq38.1 (argsL := [(.int (0 : Int32)), (.int (1 : Int32))]) (rest := []) (g := (mkF m 101 #[.val (.int i0), .val (.int i1), .val (.int i2), .val (.int i3), .val (.ref r2), .val (.ref r3), .val (.ref r6), .val (.ref s1), .val (.ref r6), .val .null, .val (.ref r3), .unset] [(.int (1 : Int32)), (.int (0 : Int32)), (.ref s1)])) rfl (by rw [hml]; rfl) (ps := [.int, .int]) (r := (some (.object "com/example/halyard/halyard/engine/Code"))) (by decide +kernel) rfl rfl (W := 0) (by show 2 * 0 + _ ≤ _; exact Nat.le_of_eq rfl) (hb hby at_101) (by decide) (by decide) (by decide) (by decide)
      have z42 : Ext T38.heap T42.heap := by rw [q42]; exact own_ext_push _ _
      have c42 : T42.heap[T38.heap.size]? = some { cls := cK42, slots := #[.ref s1, .int (1 : Int32), .int (0 : Int32)], vm := .none } := by rw [q42]; exact own_push_at _ _
      have x42 := own_ext_trans x38 z42
      have S42 := own_ST_ext z42 Sq38
      have ex43 := ex39.ext z42
      have ex44 := ex40.ext z42
      have ex45 := ex41.ext z42
      have N42 := Fr.app N38 (Fr.nil n0)
      refine own_go st42 ?_
      show own_G p e below _ T42 (mkF m 104 #[.val (.int i0), .val (.int i1), .val (.int i2), .val (.int i3), .val (.ref r2), .val (.ref r3), .val (.ref r6), .val (.ref s1), .val (.ref r6), .val .null, .val (.ref r3), .unset] [(.ref T38.heap.size)])
      refine own_go (fun t k => XS.aconstNull X42.here hx rfl (hb hby at_104) k) ?_
      show own_G p e below _ T42 (mkF m 105 #[.val (.int i0), .val (.int i1), .val (.int i2), .val (.int i3), .val (.ref r2), .val (.ref r3), .val (.ref r6), .val (.ref s1), .val (.ref r6), .val .null, .val (.ref r3), .unset] [.null, (.ref T38.heap.size)])
      obtain ⟨cB46, hB46, oB46⟩ := own_ST_cell S42
      obtain ⟨T46, X46, e46, st46⟩ := own_lam X42 hx hH (own := "com/example/halyard/halyard/engine/OperandStackPopPinLaw") (zz := ⟨"com/example/halyard/halyard/engine/OperandStack", "push", "(Ljava/lang/Object;)V"⟩) hown (hw _ (List.mem_of_getElem? (i := 47) rfl)) (hw _ (List.mem_of_getElem? (i := 48) rfl)) (hw _ (List.mem_of_getElem? (i := 49) rfl)) (hw _ (List.mem_of_getElem? (i := 50) rfl)) (hw _ (List.mem_of_getElem? (i := 51) rfl)) (hw _ (List.mem_of_getElem? (i := 52) rfl)) (hw _ (List.mem_of_getElem? (i := 9) rfl)) (hw _ (List.mem_of_getElem? (i := 23) rfl)) rfl (hw _ (List.mem_of_getElem? (i := 46) rfl)) md42 rfl c42 hB46 oB46 (w := (.ref r2)) rfl (c_lam_0 l Z a0 hw s1 ar (1 : Int32) (1 : Int32) (0 : Int32) (.ref r2) .null .null .null T42.heap S42 rfl (by decide)) rfl rfl (g := (mkF m 105 #[.val (.int i0), .val (.int i1), .val (.int i2), .val (.int i3), .val (.ref r2), .val (.ref r3), .val (.ref r6), .val (.ref s1), .val (.ref r6), .val .null, .val (.ref r3), .unset] [.null, (.ref T38.heap.size)])) rfl (by rw [hml]; rfl) (rest := []) rfl (hb hby at_105) (by decide) (by show 2 * 0 + 0 + (2 + 11) + ((4 + 11) + 0) ≤ 3216; decide) (by decide) (by decide)
      refine own_go st46 ?_
      show own_G p e below _ T46 (mkF m 110 #[.val (.int i0), .val (.int i1), .val (.int i2), .val (.int i3), .val (.ref r2), .val (.ref r3), .val (.ref r6), .val (.ref s1), .val (.ref r6), .val .null, .val (.ref r3), .unset] [(.ref r2)])
      refine own_go (fun t k => XS.astore X46.here hx rfl (hb hby at_110) rfl rfl (l' := #[.val (.int i0), .val (.int i1), .val (.int i2), .val (.int i3), .val (.ref r2), .val (.ref r3), .val (.ref r6), .val (.ref s1), .val (.ref r6), .val .null, .val (.ref r3), .val (.ref r2)]) rfl k) ?_
      show own_G p e below _ T46 (mkF m 112 #[.val (.int i0), .val (.int i1), .val (.int i2), .val (.int i3), .val (.ref r2), .val (.ref r3), .val (.ref r6), .val (.ref s1), .val (.ref r6), .val .null, .val (.ref r3), .val (.ref r2)] [])
      refine own_go (fun t k => XS.aload X46.here hx rfl (hb hby at_112) rfl rfl k) ?_
      show own_G p e below _ T46 (mkF m 114 #[.val (.int i0), .val (.int i1), .val (.int i2), .val (.int i3), .val (.ref r2), .val (.ref r3), .val (.ref r6), .val (.ref s1), .val (.ref r6), .val .null, .val (.ref r3), .val (.ref r2)] [(.ref r6)])
      refine own_go (fun t k => XS.aload X46.here hx rfl (hb hby at_114) rfl rfl k) ?_
      show own_G p e below _ T46 (mkF m 116 #[.val (.int i0), .val (.int i1), .val (.int i2), .val (.int i3), .val (.ref r2), .val (.ref r3), .val (.ref r6), .val (.ref s1), .val (.ref r6), .val .null, .val (.ref r3), .val (.ref r2)] [(.ref r6), (.ref r6)])
      refine own_go (fun t k => Jvm.Free.XT.acmpNo X46.here hx rfl (hb hby at_116) rfl rfl rfl (own_acnF rfl) k) ?_
      show own_G p e below _ T46 (mkF m 119 #[.val (.int i0), .val (.int i1), .val (.int i2), .val (.int i3), .val (.ref r2), .val (.ref r3), .val (.ref r6), .val (.ref s1), .val (.ref r6), .val .null, .val (.ref r3), .val (.ref r2)] [])
      refine own_go (fun t k => XS.aload X46.here hx rfl (hb hby at_119) rfl rfl k) ?_
      show own_G p e below _ T46 (mkF m 121 #[.val (.int i0), .val (.int i1), .val (.int i2), .val (.int i3), .val (.ref r2), .val (.ref r3), .val (.ref r6), .val (.ref s1), .val (.ref r6), .val .null, .val (.ref r3), .val (.ref r2)] [.null])
      refine own_go (fun t k => XT.ifnonnullNo X46.here hx rfl (hb hby at_121) rfl k) ?_
      show own_G p e below _ T46 (mkF m 124 #[.val (.int i0), .val (.int i1), .val (.int i2), .val (.int i3), .val (.ref r2), .val (.ref r3), .val (.ref r6), .val (.ref s1), .val (.ref r6), .val .null, .val (.ref r3), .val (.ref r2)] [])
      refine own_go (fun t k => XS.aload X46.here hx rfl (hb hby at_124) rfl rfl k) ?_
      show own_G p e below _ T46 (mkF m 126 #[.val (.int i0), .val (.int i1), .val (.int i2), .val (.int i3), .val (.ref r2), .val (.ref r3), .val (.ref r6), .val (.ref s1), .val (.ref r6), .val .null, .val (.ref r3), .val (.ref r2)] [(.ref r3)])
      refine own_go (fun t k => XS.aload X46.here hx rfl (hb hby at_126) rfl rfl k) ?_
      show own_G p e below _ T46 (mkF m 128 #[.val (.int i0), .val (.int i1), .val (.int i2), .val (.int i3), .val (.ref r2), .val (.ref r3), .val (.ref r6), .val (.ref s1), .val (.ref r6), .val .null, .val (.ref r3), .val (.ref r2)] [(.ref r3), (.ref r3)])
      refine own_go (fun t k => Jvm.Free.XT.acmpNo X46.here hx rfl (hb hby at_128) rfl rfl rfl (own_acnF rfl) k) ?_
      show own_G p e below _ T46 (mkF m 131 #[.val (.int i0), .val (.int i1), .val (.int i2), .val (.int i3), .val (.ref r2), .val (.ref r3), .val (.ref r6), .val (.ref s1), .val (.ref r6), .val .null, .val (.ref r3), .val (.ref r2)] [])
      refine own_go (fun t k => XS.aload X46.here hx rfl (hb hby at_131) rfl rfl k) ?_
      show own_G p e below _ T46 (mkF m 133 #[.val (.int i0), .val (.int i1), .val (.int i2), .val (.int i3), .val (.ref r2), .val (.ref r3), .val (.ref r6), .val (.ref s1), .val (.ref r6), .val .null, .val (.ref r3), .val (.ref r2)] [(.ref r2)])
      refine own_go (fun t k => XS.aload X46.here hx rfl (hb hby at_133) rfl rfl k) ?_
      show own_G p e below _ T46 (mkF m 135 #[.val (.int i0), .val (.int i1), .val (.int i2), .val (.int i3), .val (.ref r2), .val (.ref r3), .val (.ref r6), .val (.ref s1), .val (.ref r6), .val .null, .val (.ref r3), .val (.ref r2)] [(.ref r2), (.ref r2)])
      refine own_go (fun t k => Jvm.Free.XT.acmpNo X46.here hx rfl (hb hby at_135) rfl rfl rfl (own_acnF rfl) k) ?_
      show own_G p e below _ T46 (mkF m 138 #[.val (.int i0), .val (.int i1), .val (.int i2), .val (.int i3), .val (.ref r2), .val (.ref r3), .val (.ref r6), .val (.ref s1), .val (.ref r6), .val .null, .val (.ref r3), .val (.ref r2)] [])
      refine own_go (fun t k => XS.iconst X46.here hx rfl (hb hby at_138) k) ?_
      show own_G p e below _ T46 (mkF m 139 #[.val (.int i0), .val (.int i1), .val (.int i2), .val (.int i3), .val (.ref r2), .val (.ref r3), .val (.ref r6), .val (.ref s1), .val (.ref r6), .val .null, .val (.ref r3), .val (.ref r2)] [(.int (1 : Int32))])
      refine own_go (fun t k => XS.goto X46.here hx rfl (pc0 := 139) (pc' := 143) rfl (hb hby at_139) (by decide) (by decide) k) ?_
      show own_G p e below _ T46 (mkF m 143 #[.val (.int i0), .val (.int i1), .val (.int i2), .val (.int i3), .val (.ref r2), .val (.ref r3), .val (.ref r6), .val (.ref s1), .val (.ref r6), .val .null, .val (.ref r3), .val (.ref r2)] [(.int (1 : Int32))])
      exact own_retN X46 hx hlk hret (by simp) (hb hby at_143) (by decide) (by decide) ⟨rfl, N42⟩
    ·
      refine own_go (fun t k => XS.ifNo X3.here hx rfl (hb hby at_25) rfl (Jvm.Free.XT.i0_eq_f hc5) k) ?_
      show own_G p e below _ T3 (mkF m 28 #[.val (.int i0), .val (.int i1), .val (.int i2), .val (.int i3), .val (.ref r2), .val (.ref r3), .unset, .unset, .unset, .unset, .unset, .unset] [])
      refine own_go (fun t k => XS.aconstNull X3.here hx rfl (hb hby at_28) k) ?_
      show own_G p e below _ T3 (mkF m 29 #[.val (.int i0), .val (.int i1), .val (.int i2), .val (.int i3), .val (.ref r2), .val (.ref r3), .unset, .unset, .unset, .unset, .unset, .unset] [.null])
      refine own_go (fun t k => XS.goto X3.here hx rfl (pc0 := 29) (pc' := 36) rfl (hb hby at_29) (by decide) (by decide) k) ?_
      show own_G p e below _ T3 (mkF m 36 #[.val (.int i0), .val (.int i1), .val (.int i2), .val (.int i3), .val (.ref r2), .val (.ref r3), .unset, .unset, .unset, .unset, .unset, .unset] [.null])
      refine own_go (fun t k => XS.astore X3.here hx rfl (hb hby at_36) rfl rfl (l' := #[.val (.int i0), .val (.int i1), .val (.int i2), .val (.int i3), .val (.ref r2), .val (.ref r3), .val .null, .unset, .unset, .unset, .unset, .unset]) rfl k) ?_
      show own_G p e below _ T3 (mkF m 38 #[.val (.int i0), .val (.int i1), .val (.int i2), .val (.int i3), .val (.ref r2), .val (.ref r3), .val .null, .unset, .unset, .unset, .unset, .unset] [])
      obtain ⟨T47, h47, X47, e47, E47, A47, D47, -, st47⟩ := newO X3 hx hZ hown (hw _ (List.mem_of_getElem? (i := 7) rfl)) (hw _ (List.mem_of_getElem? (i := 8) rfl)) (hw _ (List.mem_of_getElem? (i := 9) rfl)) rfl (g := (mkF m 38 #[.val (.int i0), .val (.int i1), .val (.int i2), .val (.int i3), .val (.ref r2), .val (.ref r3), .val .null, .unset, .unset, .unset, .unset, .unset] [])) rfl (hb hby at_38) (by decide) (by decide)
      obtain ⟨s1, gs⟩ : ∃ z, z = T3.heap.size := ⟨_, rfl⟩
      rw [← gs] at A47 D47 st47
      have F1 : Fld Z h47 s1 own_K "values" "[Ljava/lang/Object;" .null := D47 (Or.inl (hw _ (List.mem_of_getElem? (i := 19) rfl))) (ty := .array (.object "java/lang/Object")) (by decide +kernel)
      have F2 : Fld Z h47 s1 own_K "size" "I" (.int (0 : Int32)) := D47 (Or.inl (hw _ (List.mem_of_getElem? (i := 26) rfl))) (ty := .int) (by decide)
      have x47 : Ext h0 h47 := own_ext_trans x3 E47
      have js : h0.size ≤ s1 := Nat.le_trans x3.1 (Nat.le_of_eq gs.symm)
      have ex48 := ex4.ext E47
      have ex49 := ei3.ext E47
      have g1 : n0 ≤ s1 := Nat.le_trans Z0 js
      refine own_go st47 ?_
      show own_G p e below _ T47 (mkF m 41 #[.val (.int i0), .val (.int i1), .val (.int i2), .val (.int i3), .val (.ref r2), .val (.ref r3), .val .null, .unset, .unset, .unset, .unset, .unset] [(.ref s1)])
      refine own_go (fun t k => XS.dup X47.here hx rfl (hb hby at_41) rfl rfl k) ?_
      show own_G p e below _ T47 (mkF m 42 #[.val (.int i0), .val (.int i1), .val (.int i2), .val (.int i3), .val (.ref r2), .val (.ref r3), .val .null, .unset, .unset, .unset, .unset, .unset] [(.ref s1), (.ref s1)])
      obtain ⟨T50, L50, v50, X50, ⟨rfl, Nq50, Kq50, Sq50⟩, st50⟩ := own_callN X47 hx hH (y := (⟨"com/example/halyard/halyard/engine/OperandStack", "<init>", "()V"⟩ : MethodName)) rfl hown (hw _ (List.mem_of_getElem? (i := 10) rfl)) (hw _ (List.mem_of_getElem? (i := 11) rfl)) (hw _ (List.mem_of_getElem? (i := 12) rfl)) (hw _ (List.mem_of_getElem? (i := 9) rfl)) (by decide) (c_init l Z a0 hw s1 h47 n0 (Nat.le_trans Z0 x47.1) A47 F1 F2 g1) e47 (argsL := []) (rest := [(.ref s1)]) (g := (mkF m 42 #[.val (.int i0), .val (.int i1), .val (.int i2), .val (.int i3), .val (.ref r2), .val (.ref r3), .val .null, .unset, .unset, .unset, .unset, .unset] [(.ref s1), (.ref s1)])) rfl (by rw [hml]; rfl) (ps := []) (r := none) (by decide +kernel) rfl rfl (W := 1) (by show 2 * 0 + _ ≤ _; exact Nat.le_of_eq rfl) (hb hby at_42) (by decide) (by decide) (by decide) (by decide)
      obtain ⟨ar, ga⟩ : ∃ z, z = h47.size := ⟨_, rfl⟩
      rw [← ga] at Sq50
      have ja : h0.size ≤ ar := Nat.le_trans x47.1 (Nat.le_of_eq ga.symm)
      have g2 : n0 ≤ ar := Nat.le_trans Z0 ja
      have x50 := own_ext_keep x47 Kq50 (allS js all0)
      have ex51 := ex48.keep Kq50
      have ex52 := ex49.keep Kq50
      have N50 := Fr.app N3 Nq50
      refine own_go st50 ?_
      show own_G p e below _ T50 (mkF m 45 #[.val (.int i0), .val (.int i1), .val (.int i2), .val (.int i3), .val (.ref r2), .val (.ref r3), .val .null, .unset, .unset, .unset, .unset, .unset] [(.ref s1)])
      refine own_go (fun t k => XS.astore X50.here hx rfl (hb hby at_45) rfl rfl (l' := #[.val (.int i0), .val (.int i1), .val (.int i2), .val (.int i3), .val (.ref r2), .val (.ref r3), .val .null, .val (.ref s1), .unset, .unset, .unset, .unset]) rfl k) ?_
      show own_G p e below _ T50 (mkF m 47 #[.val (.int i0), .val (.int i1), .val (.int i2), .val (.int i3), .val (.ref r2), .val (.ref r3), .val .null, .val (.ref s1), .unset, .unset, .unset, .unset] [])
      refine own_go (fun t k => XS.aload X50.here hx rfl (hb hby at_47) rfl rfl k) ?_
      show own_G p e below _ T50 (mkF m 49 #[.val (.int i0), .val (.int i1), .val (.int i2), .val (.int i3), .val (.ref r2), .val (.ref r3), .val .null, .val (.ref s1), .unset, .unset, .unset, .unset] [(.ref s1)])
      refine own_go (fun t k => XS.aload X50.here hx rfl (hb hby at_49) rfl rfl k) ?_
      show own_G p e below _ T50 (mkF m 51 #[.val (.int i0), .val (.int i1), .val (.int i2), .val (.int i3), .val (.ref r2), .val (.ref r3), .val .null, .val (.ref s1), .unset, .unset, .unset, .unset] [(.ref r2), (.ref s1)])
      obtain ⟨T53, L53, v53, X53, ⟨rfl, Nq53, Kq53, Sq53⟩, st53⟩ := own_callV X50 hx hH (y := (⟨"com/example/halyard/halyard/engine/OperandStack", "push", "(Ljava/lang/Object;)V"⟩ : MethodName)) (z := (⟨"com/example/halyard/halyard/engine/OperandStack", "push", "(Ljava/lang/Object;)V"⟩ : MethodName)) hown (hw _ (List.mem_of_getElem? (i := 20) rfl)) (hw _ (List.mem_of_getElem? (i := 21) rfl)) (hw _ (List.mem_of_getElem? (i := 23) rfl)) (hw _ (List.mem_of_getElem? (i := 23) rfl)) (hw _ (List.mem_of_getElem? (i := 22) rfl)) (hw _ (List.mem_of_getElem? (i := 24) rfl)) (hw _ (List.mem_of_getElem? (i := 9) rfl)) (notFace_of_selects (args := #[]) (mvT hZ (hw _ (List.mem_of_getElem? (i := 23) rfl)))) (by decide) (c_push_0A l Z a0 hw s1 ar r2 .null .null .null .null T50.heap n0 (Nat.le_trans Z0 x50.1) Sq50 (own_ST_sto Sq50 (Ins.of_exa ex51 (hw _ (List.mem_of_getElem? (i := 27) rfl)))) g1 g2) rfl Sq50.1 (argsL := [(.ref r2)]) (rest := []) (g := (mkF m 51 #[.val (.int i0), .val (.int i1), .val (.int i2), .val (.int i3), .val (.ref r2), .val (.ref r3), .val .null, .val (.ref s1), .unset, .unset, .unset, .unset] [(.ref r2), (.ref s1)])) rfl (by rw [hml]; rfl) (ps := [(.object "java/lang/Object")]) (r := none) (by decide +kernel) rfl rfl (W := 0) (by show 2 * 0 + _ ≤ _; exact Nat.le_of_eq rfl) (hb hby at_51) (by decide) (by decide) (by decide) (by decide)
      have x53 := own_ext_keep x50 Kq53 (allS js (allS ja all0))
      have ex54 := ex51.keep Kq53
      have ex55 := ex52.keep Kq53
      have N53 := Fr.app N50 Nq53
      refine own_go st53 ?_
      show own_G p e below _ T53 (mkF m 54 #[.val (.int i0), .val (.int i1), .val (.int i2), .val (.int i3), .val (.ref r2), .val (.ref r3), .val .null, .val (.ref s1), .unset, .unset, .unset, .unset] [])
      refine own_go (fun t k => XS.aload X53.here hx rfl (hb hby at_54) rfl rfl k) ?_
      show own_G p e below _ T53 (mkF m 56 #[.val (.int i0), .val (.int i1), .val (.int i2), .val (.int i3), .val (.ref r2), .val (.ref r3), .val .null, .val (.ref s1), .unset, .unset, .unset, .unset] [(.ref s1)])
      refine own_go (fun t k => XS.aload X53.here hx rfl (hb hby at_56) rfl rfl k) ?_
      show own_G p e below _ T53 (mkF m 58 #[.val (.int i0), .val (.int i1), .val (.int i2), .val (.int i3), .val (.ref r2), .val (.ref r3), .val .null, .val (.ref s1), .unset, .unset, .unset, .unset] [(.ref r3), (.ref s1)])
      obtain ⟨T56, L56, v56, X56, ⟨rfl, Nq56, Kq56, Sq56⟩, st56⟩ := own_callV X53 hx hH (y := (⟨"com/example/halyard/halyard/engine/OperandStack", "push", "(Ljava/lang/Object;)V"⟩ : MethodName)) (z := (⟨"com/example/halyard/halyard/engine/OperandStack", "push", "(Ljava/lang/Object;)V"⟩ : MethodName)) hown (hw _ (List.mem_of_getElem? (i := 20) rfl)) (hw _ (List.mem_of_getElem? (i := 21) rfl)) (hw _ (List.mem_of_getElem? (i := 23) rfl)) (hw _ (List.mem_of_getElem? (i := 23) rfl)) (hw _ (List.mem_of_getElem? (i := 22) rfl)) (hw _ (List.mem_of_getElem? (i := 24) rfl)) (hw _ (List.mem_of_getElem? (i := 9) rfl)) (notFace_of_selects (args := #[]) (mvT hZ (hw _ (List.mem_of_getElem? (i := 23) rfl)))) (by decide) (c_push_1A l Z a0 hw s1 ar r3 (.ref r2) .null .null .null T53.heap n0 (Nat.le_trans Z0 x53.1) Sq53 (own_ST_sto Sq53 (Ins.of_exa ex55 (hw _ (List.mem_of_getElem? (i := 27) rfl)))) g1 g2) rfl Sq53.1 (argsL := [(.ref r3)]) (rest := []) (g := (mkF m 58 #[.val (.int i0), .val (.int i1), .val (.int i2), .val (.int i3), .val (.ref r2), .val (.ref r3), .val .null, .val (.ref s1), .unset, .unset, .unset, .unset] [(.ref r3), (.ref s1)])) rfl (by rw [hml]; rfl) (ps := [(.object "java/lang/Object")]) (r := none) (by decide +kernel) rfl rfl (W := 0) (by show 2 * 0 + _ ≤ _; exact Nat.le_of_eq rfl) (hb hby at_58) (by decide) (by decide) (by decide) (by decide)
      have x56 := own_ext_keep x53 Kq56 (allS js (allS ja all0))
      have ex57 := ex54.keep Kq56
      have ex58 := ex55.keep Kq56
      have N56 := Fr.app N53 Nq56
      refine own_go st56 ?_
      show own_G p e below _ T56 (mkF m 61 #[.val (.int i0), .val (.int i1), .val (.int i2), .val (.int i3), .val (.ref r2), .val (.ref r3), .val .null, .val (.ref s1), .unset, .unset, .unset, .unset] [])
      refine own_go (fun t k => XS.aload X56.here hx rfl (hb hby at_61) rfl rfl k) ?_
      show own_G p e below _ T56 (mkF m 63 #[.val (.int i0), .val (.int i1), .val (.int i2), .val (.int i3), .val (.ref r2), .val (.ref r3), .val .null, .val (.ref s1), .unset, .unset, .unset, .unset] [(.ref s1)])
      refine own_go (fun t k => XS.aload X56.here hx rfl (hb hby at_63) rfl rfl k) ?_
      show own_G p e below _ T56 (mkF m 65 #[.val (.int i0), .val (.int i1), .val (.int i2), .val (.int i3), .val (.ref r2), .val (.ref r3), .val .null, .val (.ref s1), .unset, .unset, .unset, .unset] [.null, (.ref s1)])
      obtain ⟨T59, L59, v59, X59, ⟨rfl, Nq59, Kq59, Sq59⟩, st59⟩ := own_callV X56 hx hH (y := (⟨"com/example/halyard/halyard/engine/OperandStack", "push", "(Ljava/lang/Object;)V"⟩ : MethodName)) (z := (⟨"com/example/halyard/halyard/engine/OperandStack", "push", "(Ljava/lang/Object;)V"⟩ : MethodName)) hown (hw _ (List.mem_of_getElem? (i := 20) rfl)) (hw _ (List.mem_of_getElem? (i := 21) rfl)) (hw _ (List.mem_of_getElem? (i := 23) rfl)) (hw _ (List.mem_of_getElem? (i := 23) rfl)) (hw _ (List.mem_of_getElem? (i := 22) rfl)) (hw _ (List.mem_of_getElem? (i := 24) rfl)) (hw _ (List.mem_of_getElem? (i := 9) rfl)) (notFace_of_selects (args := #[]) (mvT hZ (hw _ (List.mem_of_getElem? (i := 23) rfl)))) (by decide) (c_push_2N l Z a0 hw s1 ar (.ref r2) (.ref r3) .null .null T56.heap n0 (Nat.le_trans Z0 x56.1) Sq56 g1 g2) rfl Sq56.1 (argsL := [.null]) (rest := []) (g := (mkF m 65 #[.val (.int i0), .val (.int i1), .val (.int i2), .val (.int i3), .val (.ref r2), .val (.ref r3), .val .null, .val (.ref s1), .unset, .unset, .unset, .unset] [.null, (.ref s1)])) rfl (by rw [hml]; rfl) (ps := [(.object "java/lang/Object")]) (r := none) (by decide +kernel) rfl rfl (W := 0) (by show 2 * 0 + _ ≤ _; exact Nat.le_of_eq rfl) (hb hby at_65) (by decide) (by decide) (by decide) (by decide)
      have x59 := own_ext_keep x56 Kq59 (allS js (allS ja all0))
      have ex60 := ex57.keep Kq59
      have ex61 := ex58.keep Kq59
      have N59 := Fr.app N56 Nq59
      refine own_go st59 ?_
      show own_G p e below _ T59 (mkF m 68 #[.val (.int i0), .val (.int i1), .val (.int i2), .val (.int i3), .val (.ref r2), .val (.ref r3), .val .null, .val (.ref s1), .unset, .unset, .unset, .unset] [])
      refine own_go (fun t k => XS.aload X59.here hx rfl (hb hby at_68) rfl rfl k) ?_
      show own_G p e below _ T59 (mkF m 70 #[.val (.int i0), .val (.int i1), .val (.int i2), .val (.int i3), .val (.ref r2), .val (.ref r3), .val .null, .val (.ref s1), .unset, .unset, .unset, .unset] [(.ref s1)])
      obtain ⟨T62, L62, v62, X62, ⟨rfl, Nq62, Kq62, Sq62⟩, st62⟩ := own_callV X59 hx hH (y := (⟨"com/example/halyard/halyard/engine/OperandStack", "pop", "()Ljava/lang/Object;"⟩ : MethodName)) (z := (⟨"com/example/halyard/halyard/engine/OperandStack", "pop", "()Ljava/lang/Object;"⟩ : MethodName)) hown (hw _ (List.mem_of_getElem? (i := 28) rfl)) (hw _ (List.mem_of_getElem? (i := 29) rfl)) (hw _ (List.mem_of_getElem? (i := 31) rfl)) (hw _ (List.mem_of_getElem? (i := 31) rfl)) (hw _ (List.mem_of_getElem? (i := 30) rfl)) (hw _ (List.mem_of_getElem? (i := 32) rfl)) (hw _ (List.mem_of_getElem? (i := 9) rfl)) (notFace_of_selects (args := #[]) (mvT hZ (hw _ (List.mem_of_getElem? (i := 31) rfl)))) (by decide) (c_pop_3 l Z a0 hw s1 ar (.ref r2) (.ref r3) .null .null T59.heap n0 (Nat.le_trans Z0 x59.1) Sq59 rfl g1 g2) rfl Sq59.1 (argsL := []) (rest := []) (g := (mkF m 70 #[.val (.int i0), .val (.int i1), .val (.int i2), .val (.int i3), .val (.ref r2), .val (.ref r3), .val .null, .val (.ref s1), .unset, .unset, .unset, .unset] [(.ref s1)])) rfl (by rw [hml]; rfl) (ps := []) (r := (some (.object "java/lang/Object"))) (by decide +kernel) rfl rfl (W := 0) (by show 2 * 0 + _ ≤ _; exact Nat.le_of_eq rfl) (hb hby at_70) (by decide) (by decide) (by decide) (by decide)
      have x62 := own_ext_keep x59 Kq62 (allS js (allS ja all0))
      have ex63 := ex60.keep Kq62
      have ex64 := ex61.keep Kq62
      have N62 := Fr.app N59 Nq62
      refine own_go st62 ?_
      show own_G p e below _ T62 (mkF m 73 #[.val (.int i0), .val (.int i1), .val (.int i2), .val (.int i3), .val (.ref r2), .val (.ref r3), .val .null, .val (.ref s1), .unset, .unset, .unset, .unset] [.null])
      refine own_go (fun t k => XS.astore X62.here hx rfl (hb hby at_73) rfl rfl (l' := #[.val (.int i0), .val (.int i1), .val (.int i2), .val (.int i3), .val (.ref r2), .val (.ref r3), .val .null, .val (.ref s1), .val .null, .unset, .unset, .unset]) rfl k) ?_
      show own_G p e below _ T62 (mkF m 75 #[.val (.int i0), .val (.int i1), .val (.int i2), .val (.int i3), .val (.ref r2), .val (.ref r3), .val .null, .val (.ref s1), .val .null, .unset, .unset, .unset] [])
      refine own_go (fun t k => XS.aload X62.here hx rfl (hb hby at_75) rfl rfl k) ?_
      show own_G p e below _ T62 (mkF m 77 #[.val (.int i0), .val (.int i1), .val (.int i2), .val (.int i3), .val (.ref r2), .val (.ref r3), .val .null, .val (.ref s1), .val .null, .unset, .unset, .unset] [(.ref s1)])
      refine own_go (fun t k => XS.iconst X62.here hx rfl (hb hby at_77) k) ?_
      show own_G p e below _ T62 (mkF m 78 #[.val (.int i0), .val (.int i1), .val (.int i2), .val (.int i3), .val (.ref r2), .val (.ref r3), .val .null, .val (.ref s1), .val .null, .unset, .unset, .unset] [(.int (1 : Int32)), (.ref s1)])
      refine own_go (fun t k => XS.iconst X62.here hx rfl (hb hby at_78) k) ?_
      show own_G p e below _ T62 (mkF m 79 #[.val (.int i0), .val (.int i1), .val (.int i2), .val (.int i3), .val (.ref r2), .val (.ref r3), .val .null, .val (.ref s1), .val .null, .unset, .unset, .unset] [(.int (1 : Int32)), (.int (1 : Int32)), (.ref s1)])
      obtain ⟨T65, L65, v65, X65, ⟨cK65, rfl, rfl, md65, q65⟩, st65⟩ := own_callV X62 hx hH (y := (⟨"com/example/halyard/halyard/engine/OperandStack", "operand", "(II)Lcom/example/halyard/halyard/engine/Code;"⟩ : MethodName)) (z := (⟨"com/example/halyard/halyard/engine/OperandStack", "operand", "(II)Lcom/example/halyard/halyard/engine/Code;"⟩ : MethodName)) hown (hw _ (List.mem_of_getElem? (i := 38) rfl)) (hw _ (List.mem_of_getElem? (i := 39) rfl)) (hw _ (List.mem_of_getElem? (i := 41) rfl)) (hw _ (List.mem_of_getElem? (i := 41) rfl)) (hw _ (List.mem_of_getElem? (i := 40) rfl)) (hw _ (List.mem_of_getElem? (i := 42) rfl)) (hw _ (List.mem_of_getElem? (i := 9) rfl)) (notFace_of_selects (args := #[]) (mvT hZ (hw _ (List.mem_of_getElem? (i := 41) rfl)))) (by decide) (c_operand l Z a0 hw s1 (1 : Int32) (1 : Int32) T62.heap) rfl Sq62.1 (argsL := [(.int (1 : Int32)), (.int (1 : Int32))]) (rest := []) (g := (mkF m 79 #[.val (.int i0), .val (.int i1), .val (.int i2), .val (.int i3), .val (.ref r2), .val (.ref r3), .val .null, .val (.ref s1), .val .null, .unset, .unset, .unset] [(.int (1 : Int32)), (.int (1 : Int32)), (.ref s1)])) rfl (by rw [hml]; rfl) (ps := [.int, .int]) (r := (some (.object "com/example/halyard/halyard/engine/Code"))) (by decide +kernel) rfl rfl (W := 0) (by show 2 * 0 + _ ≤ _; exact Nat.le_of_eq rfl) (hb hby at_79) (by decide) (by decide) (by decide) (by decide)
      have z65 : Ext T62.heap T65.heap := by rw [q65]; exact own_ext_push _ _
      have c65 : T65.heap[T62.heap.size]? = some { cls := cK65, slots := #[.ref s1, .int (1 : Int32), .int (1 : Int32)], vm := .none } := by rw [q65]; exact own_push_at _ _
      have x65 := own_ext_trans x62 z65
      have S65 := own_ST_ext z65 Sq62
      have ex66 := ex63.ext z65
      have ex67 := ex64.ext z65
      have N65 := Fr.app N62 (Fr.nil n0)
      refine own_go st65 ?_
      show own_G p e below _ T65 (mkF m 82 #[.val (.int i0), .val (.int i1), .val (.int i2), .val (.int i3), .val (.ref r2), .val (.ref r3), .val .null, .val (.ref s1), .val .null, .unset, .unset, .unset] [(.ref T62.heap.size)])
      refine own_go (fun t k => XS.aconstNull X65.here hx rfl (hb hby at_82) k) ?_
      show own_G p e below _ T65 (mkF m 83 #[.val (.int i0), .val (.int i1), .val (.int i2), .val (.int i3), .val (.ref r2), .val (.ref r3), .val .null, .val (.ref s1), .val .null, .unset, .unset, .unset] [.null, (.ref T62.heap.size)])
      obtain ⟨cB68, hB68, oB68⟩ := own_ST_cell S65
      obtain ⟨T68, X68, e68, st68⟩ := own_lam X65 hx hH (own := "com/example/halyard/halyard/engine/OperandStackPopPinLaw") (zz := ⟨"com/example/halyard/halyard/engine/OperandStack", "push", "(Ljava/lang/Object;)V"⟩) hown (hw _ (List.mem_of_getElem? (i := 47) rfl)) (hw _ (List.mem_of_getElem? (i := 48) rfl)) (hw _ (List.mem_of_getElem? (i := 49) rfl)) (hw _ (List.mem_of_getElem? (i := 50) rfl)) (hw _ (List.mem_of_getElem? (i := 51) rfl)) (hw _ (List.mem_of_getElem? (i := 52) rfl)) (hw _ (List.mem_of_getElem? (i := 9) rfl)) (hw _ (List.mem_of_getElem? (i := 23) rfl)) rfl (hw _ (List.mem_of_getElem? (i := 46) rfl)) md65 rfl c65 hB68 oB68 (w := .null) rfl (c_lam_2 l Z a0 hw s1 ar (2 : Int32) (1 : Int32) (1 : Int32) (.ref r2) (.ref r3) .null .null T65.heap S65 rfl (by decide)) rfl rfl (g := (mkF m 83 #[.val (.int i0), .val (.int i1), .val (.int i2), .val (.int i3), .val (.ref r2), .val (.ref r3), .val .null, .val (.ref s1), .val .null, .unset, .unset, .unset] [.null, (.ref T62.heap.size)])) rfl (by rw [hml]; rfl) (rest := []) rfl (hb hby at_83) (by decide) (by show 2 * 0 + 0 + (2 + 11) + ((4 + 11) + 0) ≤ 3216; decide) (by decide) (by decide)
      refine own_go st68 ?_
      show own_G p e below _ T68 (mkF m 88 #[.val (.int i0), .val (.int i1), .val (.int i2), .val (.int i3), .val (.ref r2), .val (.ref r3), .val .null, .val (.ref s1), .val .null, .unset, .unset, .unset] [.null])
      refine own_go (fun t k => XS.astore X68.here hx rfl (hb hby at_88) rfl rfl (l' := #[.val (.int i0), .val (.int i1), .val (.int i2), .val (.int i3), .val (.ref r2), .val (.ref r3), .val .null, .val (.ref s1), .val .null, .val .null, .unset, .unset]) rfl k) ?_
      show own_G p e below _ T68 (mkF m 90 #[.val (.int i0), .val (.int i1), .val (.int i2), .val (.int i3), .val (.ref r2), .val (.ref r3), .val .null, .val (.ref s1), .val .null, .val .null, .unset, .unset] [])
      refine own_go (fun t k => XS.aload X68.here hx rfl (hb hby at_90) rfl rfl k) ?_
      show own_G p e below _ T68 (mkF m 92 #[.val (.int i0), .val (.int i1), .val (.int i2), .val (.int i3), .val (.ref r2), .val (.ref r3), .val .null, .val (.ref s1), .val .null, .val .null, .unset, .unset] [(.ref s1)])
      obtain ⟨T69, L69, v69, X69, ⟨rfl, Nq69, Kq69, Sq69⟩, st69⟩ := own_callV X68 hx hH (y := (⟨"com/example/halyard/halyard/engine/OperandStack", "pop", "()Ljava/lang/Object;"⟩ : MethodName)) (z := (⟨"com/example/halyard/halyard/engine/OperandStack", "pop", "()Ljava/lang/Object;"⟩ : MethodName)) hown (hw _ (List.mem_of_getElem? (i := 28) rfl)) (hw _ (List.mem_of_getElem? (i := 29) rfl)) (hw _ (List.mem_of_getElem? (i := 31) rfl)) (hw _ (List.mem_of_getElem? (i := 31) rfl)) (hw _ (List.mem_of_getElem? (i := 30) rfl)) (hw _ (List.mem_of_getElem? (i := 32) rfl)) (hw _ (List.mem_of_getElem? (i := 9) rfl)) (notFace_of_selects (args := #[]) (mvT hZ (hw _ (List.mem_of_getElem? (i := 31) rfl)))) (by decide) (c_pop_2 l Z a0 hw s1 ar (.ref r2) (.ref r3) .null .null T65.heap n0 (Nat.le_trans Z0 x65.1) S65 rfl g1 g2) e68 S65.1 (argsL := []) (rest := []) (g := (mkF m 92 #[.val (.int i0), .val (.int i1), .val (.int i2), .val (.int i3), .val (.ref r2), .val (.ref r3), .val .null, .val (.ref s1), .val .null, .val .null, .unset, .unset] [(.ref s1)])) rfl (by rw [hml]; rfl) (ps := []) (r := (some (.object "java/lang/Object"))) (by decide +kernel) rfl rfl (W := 0) (by show 2 * 0 + _ ≤ _; exact Nat.le_of_eq rfl) (hb hby at_92) (by decide) (by decide) (by decide) (by decide)
      have x69 := own_ext_keep x65 Kq69 (allS js (allS ja all0))
      have ex70 := ex66.keep Kq69
      have ex71 := ex67.keep Kq69
      have N69 := Fr.app N65 Nq69
      refine own_go st69 ?_
      show own_G p e below _ T69 (mkF m 95 #[.val (.int i0), .val (.int i1), .val (.int i2), .val (.int i3), .val (.ref r2), .val (.ref r3), .val .null, .val (.ref s1), .val .null, .val .null, .unset, .unset] [(.ref r3)])
      refine own_go (fun t k => XS.astore X69.here hx rfl (hb hby at_95) rfl rfl (l' := #[.val (.int i0), .val (.int i1), .val (.int i2), .val (.int i3), .val (.ref r2), .val (.ref r3), .val .null, .val (.ref s1), .val .null, .val .null, .val (.ref r3), .unset]) rfl k) ?_
      show own_G p e below _ T69 (mkF m 97 #[.val (.int i0), .val (.int i1), .val (.int i2), .val (.int i3), .val (.ref r2), .val (.ref r3), .val .null, .val (.ref s1), .val .null, .val .null, .val (.ref r3), .unset] [])
      refine own_go (fun t k => XS.aload X69.here hx rfl (hb hby at_97) rfl rfl k) ?_
      show own_G p e below _ T69 (mkF m 99 #[.val (.int i0), .val (.int i1), .val (.int i2), .val (.int i3), .val (.ref r2), .val (.ref r3), .val .null, .val (.ref s1), .val .null, .val .null, .val (.ref r3), .unset] [(.ref s1)])
      refine own_go (fun t k => XS.iconst X69.here hx rfl (hb hby at_99) k) ?_
      show own_G p e below _ T69 (mkF m 100 #[.val (.int i0), .val (.int i1), .val (.int i2), .val (.int i3), .val (.ref r2), .val (.ref r3), .val .null, .val (.ref s1), .val .null, .val .null, .val (.ref r3), .unset] [(.int (0 : Int32)), (.ref s1)])
      refine own_go (fun t k => XS.iconst X69.here hx rfl (hb hby at_100) k) ?_
      show own_G p e below _ T69 (mkF m 101 #[.val (.int i0), .val (.int i1), .val (.int i2), .val (.int i3), .val (.ref r2), .val (.ref r3), .val .null, .val (.ref s1), .val .null, .val .null, .val (.ref r3), .unset] [(.int (1 : Int32)), (.int (0 : Int32)), (.ref s1)])
      obtain ⟨T72, L72, v72, X72, ⟨cK72, rfl, rfl, md72, q72⟩, st72⟩ := own_callV X69 hx hH (y := (⟨"com/example/halyard/halyard/engine/OperandStack", "operand", "(II)Lcom/example/halyard/halyard/engine/Code;"⟩ : MethodName)) (z := (⟨"com/example/halyard/halyard/engine/OperandStack", "operand", "(II)Lcom/example/halyard/halyard/engine/Code;"⟩ : MethodName)) hown (hw _ (List.mem_of_getElem? (i := 38) rfl)) (hw _ (List.mem_of_getElem? (i := 39) rfl)) (hw _ (List.mem_of_getElem? (i := 41) rfl)) (hw _ (List.mem_of_getElem? (i := 41) rfl)) (hw _ (List.mem_of_getElem? (i := 40) rfl)) (hw _ (List.mem_of_getElem? (i := 42) rfl)) (hw _ (List.mem_of_getElem? (i := 9) rfl)) (notFace_of_selects (args := #[]) (mvT hZ (hw _ (List.mem_of_getElem? (i := 41) rfl)))) (by decide) (c_operand l Z a0 hw s1 (0 : Int32) (1 : Int32) T69.heap) rfl Sq69.1 (argsL := [(.int (0 : Int32)), (.int (1 : Int32))]) (rest := []) (g := (mkF m 101 #[.val (.int i0), .val (.int i1), .val (.int i2), .val (.int i3), .val (.ref r2), .val (.ref r3), .val .null, .val (.ref s1), .val .null, .val .null, .val (.ref r3), .unset] [(.int (1 : Int32)), (.int (0 : Int32)), (.ref s1)])) rfl (by rw [hml]; rfl) (ps := [.int, .int]) (r := (some (.object "com/example/halyard/halyard/engine/Code"))) (by decide +kernel) rfl rfl (W := 0) (by show 2 * 0 + _ ≤ _; exact Nat.le_of_eq rfl) (hb hby at_101) (by decide) (by decide) (by decide) (by decide)
      have z72 : Ext T69.heap T72.heap := by rw [q72]; exact own_ext_push _ _
      have c72 : T72.heap[T69.heap.size]? = some { cls := cK72, slots := #[.ref s1, .int (1 : Int32), .int (0 : Int32)], vm := .none } := by rw [q72]; exact own_push_at _ _
      have x72 := own_ext_trans x69 z72
      have S72 := own_ST_ext z72 Sq69
      have ex73 := ex70.ext z72
      have ex74 := ex71.ext z72
      have N72 := Fr.app N69 (Fr.nil n0)
      refine own_go st72 ?_
      show own_G p e below _ T72 (mkF m 104 #[.val (.int i0), .val (.int i1), .val (.int i2), .val (.int i3), .val (.ref r2), .val (.ref r3), .val .null, .val (.ref s1), .val .null, .val .null, .val (.ref r3), .unset] [(.ref T69.heap.size)])
      refine own_go (fun t k => XS.aconstNull X72.here hx rfl (hb hby at_104) k) ?_
      show own_G p e below _ T72 (mkF m 105 #[.val (.int i0), .val (.int i1), .val (.int i2), .val (.int i3), .val (.ref r2), .val (.ref r3), .val .null, .val (.ref s1), .val .null, .val .null, .val (.ref r3), .unset] [.null, (.ref T69.heap.size)])
      obtain ⟨cB75, hB75, oB75⟩ := own_ST_cell S72
      obtain ⟨T75, X75, e75, st75⟩ := own_lam X72 hx hH (own := "com/example/halyard/halyard/engine/OperandStackPopPinLaw") (zz := ⟨"com/example/halyard/halyard/engine/OperandStack", "push", "(Ljava/lang/Object;)V"⟩) hown (hw _ (List.mem_of_getElem? (i := 47) rfl)) (hw _ (List.mem_of_getElem? (i := 48) rfl)) (hw _ (List.mem_of_getElem? (i := 49) rfl)) (hw _ (List.mem_of_getElem? (i := 50) rfl)) (hw _ (List.mem_of_getElem? (i := 51) rfl)) (hw _ (List.mem_of_getElem? (i := 52) rfl)) (hw _ (List.mem_of_getElem? (i := 9) rfl)) (hw _ (List.mem_of_getElem? (i := 23) rfl)) rfl (hw _ (List.mem_of_getElem? (i := 46) rfl)) md72 rfl c72 hB75 oB75 (w := (.ref r2)) rfl (c_lam_0 l Z a0 hw s1 ar (1 : Int32) (1 : Int32) (0 : Int32) (.ref r2) .null .null .null T72.heap S72 rfl (by decide)) rfl rfl (g := (mkF m 105 #[.val (.int i0), .val (.int i1), .val (.int i2), .val (.int i3), .val (.ref r2), .val (.ref r3), .val .null, .val (.ref s1), .val .null, .val .null, .val (.ref r3), .unset] [.null, (.ref T69.heap.size)])) rfl (by rw [hml]; rfl) (rest := []) rfl (hb hby at_105) (by decide) (by show 2 * 0 + 0 + (2 + 11) + ((4 + 11) + 0) ≤ 3216; decide) (by decide) (by decide)
      refine own_go st75 ?_
      show own_G p e below _ T75 (mkF m 110 #[.val (.int i0), .val (.int i1), .val (.int i2), .val (.int i3), .val (.ref r2), .val (.ref r3), .val .null, .val (.ref s1), .val .null, .val .null, .val (.ref r3), .unset] [(.ref r2)])
      refine own_go (fun t k => XS.astore X75.here hx rfl (hb hby at_110) rfl rfl (l' := #[.val (.int i0), .val (.int i1), .val (.int i2), .val (.int i3), .val (.ref r2), .val (.ref r3), .val .null, .val (.ref s1), .val .null, .val .null, .val (.ref r3), .val (.ref r2)]) rfl k) ?_
      show own_G p e below _ T75 (mkF m 112 #[.val (.int i0), .val (.int i1), .val (.int i2), .val (.int i3), .val (.ref r2), .val (.ref r3), .val .null, .val (.ref s1), .val .null, .val .null, .val (.ref r3), .val (.ref r2)] [])
      refine own_go (fun t k => XS.aload X75.here hx rfl (hb hby at_112) rfl rfl k) ?_
      show own_G p e below _ T75 (mkF m 114 #[.val (.int i0), .val (.int i1), .val (.int i2), .val (.int i3), .val (.ref r2), .val (.ref r3), .val .null, .val (.ref s1), .val .null, .val .null, .val (.ref r3), .val (.ref r2)] [.null])
      refine own_go (fun t k => XS.aload X75.here hx rfl (hb hby at_114) rfl rfl k) ?_
      show own_G p e below _ T75 (mkF m 116 #[.val (.int i0), .val (.int i1), .val (.int i2), .val (.int i3), .val (.ref r2), .val (.ref r3), .val .null, .val (.ref s1), .val .null, .val .null, .val (.ref r3), .val (.ref r2)] [.null, .null])
      refine own_go (fun t k => Jvm.Free.XT.acmpNo X75.here hx rfl (hb hby at_116) rfl rfl rfl (by decide) k) ?_
      show own_G p e below _ T75 (mkF m 119 #[.val (.int i0), .val (.int i1), .val (.int i2), .val (.int i3), .val (.ref r2), .val (.ref r3), .val .null, .val (.ref s1), .val .null, .val .null, .val (.ref r3), .val (.ref r2)] [])
      refine own_go (fun t k => XS.aload X75.here hx rfl (hb hby at_119) rfl rfl k) ?_
      show own_G p e below _ T75 (mkF m 121 #[.val (.int i0), .val (.int i1), .val (.int i2), .val (.int i3), .val (.ref r2), .val (.ref r3), .val .null, .val (.ref s1), .val .null, .val .null, .val (.ref r3), .val (.ref r2)] [.null])
      refine own_go (fun t k => XT.ifnonnullNo X75.here hx rfl (hb hby at_121) rfl k) ?_
      show own_G p e below _ T75 (mkF m 124 #[.val (.int i0), .val (.int i1), .val (.int i2), .val (.int i3), .val (.ref r2), .val (.ref r3), .val .null, .val (.ref s1), .val .null, .val .null, .val (.ref r3), .val (.ref r2)] [])
      refine own_go (fun t k => XS.aload X75.here hx rfl (hb hby at_124) rfl rfl k) ?_
      show own_G p e below _ T75 (mkF m 126 #[.val (.int i0), .val (.int i1), .val (.int i2), .val (.int i3), .val (.ref r2), .val (.ref r3), .val .null, .val (.ref s1), .val .null, .val .null, .val (.ref r3), .val (.ref r2)] [(.ref r3)])
      refine own_go (fun t k => XS.aload X75.here hx rfl (hb hby at_126) rfl rfl k) ?_
      show own_G p e below _ T75 (mkF m 128 #[.val (.int i0), .val (.int i1), .val (.int i2), .val (.int i3), .val (.ref r2), .val (.ref r3), .val .null, .val (.ref s1), .val .null, .val .null, .val (.ref r3), .val (.ref r2)] [(.ref r3), (.ref r3)])
      refine own_go (fun t k => Jvm.Free.XT.acmpNo X75.here hx rfl (hb hby at_128) rfl rfl rfl (own_acnF rfl) k) ?_
      show own_G p e below _ T75 (mkF m 131 #[.val (.int i0), .val (.int i1), .val (.int i2), .val (.int i3), .val (.ref r2), .val (.ref r3), .val .null, .val (.ref s1), .val .null, .val .null, .val (.ref r3), .val (.ref r2)] [])
      refine own_go (fun t k => XS.aload X75.here hx rfl (hb hby at_131) rfl rfl k) ?_
      show own_G p e below _ T75 (mkF m 133 #[.val (.int i0), .val (.int i1), .val (.int i2), .val (.int i3), .val (.ref r2), .val (.ref r3), .val .null, .val (.ref s1), .val .null, .val .null, .val (.ref r3), .val (.ref r2)] [(.ref r2)])
      refine own_go (fun t k => XS.aload X75.here hx rfl (hb hby at_133) rfl rfl k) ?_
      show own_G p e below _ T75 (mkF m 135 #[.val (.int i0), .val (.int i1), .val (.int i2), .val (.int i3), .val (.ref r2), .val (.ref r3), .val .null, .val (.ref s1), .val .null, .val .null, .val (.ref r3), .val (.ref r2)] [(.ref r2), (.ref r2)])
      refine own_go (fun t k => Jvm.Free.XT.acmpNo X75.here hx rfl (hb hby at_135) rfl rfl rfl (own_acnF rfl) k) ?_
      show own_G p e below _ T75 (mkF m 138 #[.val (.int i0), .val (.int i1), .val (.int i2), .val (.int i3), .val (.ref r2), .val (.ref r3), .val .null, .val (.ref s1), .val .null, .val .null, .val (.ref r3), .val (.ref r2)] [])
      refine own_go (fun t k => XS.iconst X75.here hx rfl (hb hby at_138) k) ?_
      show own_G p e below _ T75 (mkF m 139 #[.val (.int i0), .val (.int i1), .val (.int i2), .val (.int i3), .val (.ref r2), .val (.ref r3), .val .null, .val (.ref s1), .val .null, .val .null, .val (.ref r3), .val (.ref r2)] [(.int (1 : Int32))])
      refine own_go (fun t k => XS.goto X75.here hx rfl (pc0 := 139) (pc' := 143) rfl (hb hby at_139) (by decide) (by decide) k) ?_
      show own_G p e below _ T75 (mkF m 143 #[.val (.int i0), .val (.int i1), .val (.int i2), .val (.int i3), .val (.ref r2), .val (.ref r3), .val .null, .val (.ref s1), .val .null, .val .null, .val (.ref r3), .val (.ref r2)] [(.int (1 : Int32))])
      exact own_retN X75 hx hlk hret (by simp) (hb hby at_143) (by decide) (by decide) ⟨rfl, N72⟩
  ·
    refine own_go (fun t k => XS.ifNo X0.here hx rfl (hb hby at_3) rfl (Jvm.Free.XT.i0_eq_f hc1) k) ?_
    show own_G p e below _ T0 (mkF m 6 #[.val (.int i0), .val (.int i1), .val (.int i2), .val (.int i3), .unset, .unset, .unset, .unset, .unset, .unset, .unset, .unset] [])
    refine own_go (fun t k => XS.aconstNull X0.here hx rfl (hb hby at_6) k) ?_
    show own_G p e below _ T0 (mkF m 7 #[.val (.int i0), .val (.int i1), .val (.int i2), .val (.int i3), .unset, .unset, .unset, .unset, .unset, .unset, .unset, .unset] [.null])
    refine own_go (fun t k => XS.goto X0.here hx rfl (pc0 := 7) (pc' := 14) rfl (hb hby at_7) (by decide) (by decide) k) ?_
    show own_G p e below _ T0 (mkF m 14 #[.val (.int i0), .val (.int i1), .val (.int i2), .val (.int i3), .unset, .unset, .unset, .unset, .unset, .unset, .unset, .unset] [.null])
    refine own_go (fun t k => XS.astore X0.here hx rfl (hb hby at_14) rfl rfl (l' := #[.val (.int i0), .val (.int i1), .val (.int i2), .val (.int i3), .val .null, .unset, .unset, .unset, .unset, .unset, .unset, .unset]) rfl k) ?_
    show own_G p e below _ T0 (mkF m 16 #[.val (.int i0), .val (.int i1), .val (.int i2), .val (.int i3), .val .null, .unset, .unset, .unset, .unset, .unset, .unset, .unset] [])
    refine own_go (fun t k => XS.iloadN X0.here hx rfl (hb hby at_16) rfl k) ?_
    show own_G p e below _ T0 (mkF m 17 #[.val (.int i0), .val (.int i1), .val (.int i2), .val (.int i3), .val .null, .unset, .unset, .unset, .unset, .unset, .unset, .unset] [(.int i1)])
    obtain ⟨T76, L76, v76, X76, ⟨r76, rfl, Nq76, q76, ei76⟩, st76⟩ := own_callS X0 hx hH (y := (⟨"java/lang/Integer", "valueOf", "(I)Ljava/lang/Integer;"⟩ : MethodName)) hown (hw _ (List.mem_of_getElem? (i := 0) rfl)) (hw _ (List.mem_of_getElem? (i := 1) rfl)) (hw _ (List.mem_of_getElem? (i := 2) rfl)) (hw _ (List.mem_of_getElem? (i := 3) rfl)) (by decide) (c_valueOf l Z a0 hw ac clc i1 h0 n0 Z0 B) e0 (argsL := [(.int i1)]) (rest := []) (g := (mkF m 17 #[.val (.int i0), .val (.int i1), .val (.int i2), .val (.int i3), .val .null, .unset, .unset, .unset, .unset, .unset, .unset, .unset] [(.int i1)])) rfl (by rw [hml]; rfl) (ps := [.int]) (r := (some (.object "java/lang/Integer"))) (by decide +kernel) rfl rfl (W := 0) (by show 2 * 0 + _ ≤ _; exact Nat.le_of_eq rfl) (hb hby at_17) (by decide) (by decide) (by decide) (by decide)
    have N76 := Fr.app N0 Nq76
    refine own_go st76 ?_
    show own_G p e below _ T76 (mkF m 20 #[.val (.int i0), .val (.int i1), .val (.int i2), .val (.int i3), .val .null, .unset, .unset, .unset, .unset, .unset, .unset, .unset] [(.ref r76)])
    refine own_go (fun t k => XS.astore X76.here hx rfl (hb hby at_20) rfl rfl (l' := #[.val (.int i0), .val (.int i1), .val (.int i2), .val (.int i3), .val .null, .val (.ref r76), .unset, .unset, .unset, .unset, .unset, .unset]) rfl k) ?_
    show own_G p e below _ T76 (mkF m 22 #[.val (.int i0), .val (.int i1), .val (.int i2), .val (.int i3), .val .null, .val (.ref r76), .unset, .unset, .unset, .unset, .unset, .unset] [])
    refine own_go (fun t k => XS.iloadN X76.here hx rfl (hb hby at_22) rfl k) ?_
    show own_G p e below _ T76 (mkF m 23 #[.val (.int i0), .val (.int i1), .val (.int i2), .val (.int i3), .val .null, .val (.ref r76), .unset, .unset, .unset, .unset, .unset, .unset] [(.int i3)])
    refine own_go (fun t k => XS.iconst X76.here hx rfl (hb hby at_23) k) ?_
    show own_G p e below _ T76 (mkF m 24 #[.val (.int i0), .val (.int i1), .val (.int i2), .val (.int i3), .val .null, .val (.ref r76), .unset, .unset, .unset, .unset, .unset, .unset] [(.int (2 : Int32)), (.int i3)])
    refine own_go (fun t k => XS.iand X76.here hx rfl (hb hby at_24) rfl k) ?_
    show own_G p e below _ T76 (mkF m 25 #[.val (.int i0), .val (.int i1), .val (.int i2), .val (.int i3), .val .null, .val (.ref r76), .unset, .unset, .unset, .unset, .unset, .unset] [(.int (i3 &&& (2 : Int32)))])
    by_cases hc77 : (i3 &&& (2 : Int32)) = (0 : Int32)
    ·
      refine own_go (fun t k => XS.ifYes X76.here hx rfl (pc0 := 25) (pc' := 32) rfl (hb hby at_25) rfl (Jvm.Free.XT.i0_eq_t hc77) (by decide) (by decide) k) ?_
      show own_G p e below _ T76 (mkF m 32 #[.val (.int i0), .val (.int i1), .val (.int i2), .val (.int i3), .val .null, .val (.ref r76), .unset, .unset, .unset, .unset, .unset, .unset] [])
      refine own_go (fun t k => XS.iloadN X76.here hx rfl (hb hby at_32) rfl k) ?_
      show own_G p e below _ T76 (mkF m 33 #[.val (.int i0), .val (.int i1), .val (.int i2), .val (.int i3), .val .null, .val (.ref r76), .unset, .unset, .unset, .unset, .unset, .unset] [(.int i2)])
      obtain ⟨T78, L78, v78, X78, ⟨r78, rfl, Nq78, q78, ei78⟩, st78⟩ := own_callS X76 hx hH (y := (⟨"java/lang/Integer", "valueOf", "(I)Ljava/lang/Integer;"⟩ : MethodName)) hown (hw _ (List.mem_of_getElem? (i := 0) rfl)) (hw _ (List.mem_of_getElem? (i := 1) rfl)) (hw _ (List.mem_of_getElem? (i := 2) rfl)) (hw _ (List.mem_of_getElem? (i := 3) rfl)) (by decide) (c_valueOf l Z a0 hw ac clc i2 T76.heap n0 (Nat.le_trans Z0 q76.1) (own_B_ext q76 B)) rfl (argsL := [(.int i2)]) (rest := []) (g := (mkF m 33 #[.val (.int i0), .val (.int i1), .val (.int i2), .val (.int i3), .val .null, .val (.ref r76), .unset, .unset, .unset, .unset, .unset, .unset] [(.int i2)])) rfl (by rw [hml]; rfl) (ps := [.int]) (r := (some (.object "java/lang/Integer"))) (by decide +kernel) rfl rfl (W := 0) (by show 2 * 0 + _ ≤ _; exact Nat.le_of_eq rfl) (hb hby at_33) (by decide) (by decide) (by decide) (by decide)
      have x78 := own_ext_trans q76 q78
      have ex79 := ei76.ext q78
      have N78 := Fr.app N76 Nq78
      refine own_go st78 ?_
      show own_G p e below _ T78 (mkF m 36 #[.val (.int i0), .val (.int i1), .val (.int i2), .val (.int i3), .val .null, .val (.ref r76), .unset, .unset, .unset, .unset, .unset, .unset] [(.ref r78)])
      refine own_go (fun t k => XS.astore X78.here hx rfl (hb hby at_36) rfl rfl (l' := #[.val (.int i0), .val (.int i1), .val (.int i2), .val (.int i3), .val .null, .val (.ref r76), .val (.ref r78), .unset, .unset, .unset, .unset, .unset]) rfl k) ?_
      show own_G p e below _ T78 (mkF m 38 #[.val (.int i0), .val (.int i1), .val (.int i2), .val (.int i3), .val .null, .val (.ref r76), .val (.ref r78), .unset, .unset, .unset, .unset, .unset] [])
      obtain ⟨T80, h80, X80, e80, E80, A80, D80, -, st80⟩ := newO X78 hx hZ hown (hw _ (List.mem_of_getElem? (i := 7) rfl)) (hw _ (List.mem_of_getElem? (i := 8) rfl)) (hw _ (List.mem_of_getElem? (i := 9) rfl)) rfl (g := (mkF m 38 #[.val (.int i0), .val (.int i1), .val (.int i2), .val (.int i3), .val .null, .val (.ref r76), .val (.ref r78), .unset, .unset, .unset, .unset, .unset] [])) rfl (hb hby at_38) (by decide) (by decide)
      obtain ⟨s1, gs⟩ : ∃ z, z = T78.heap.size := ⟨_, rfl⟩
      rw [← gs] at A80 D80 st80
      have F1 : Fld Z h80 s1 own_K "values" "[Ljava/lang/Object;" .null := D80 (Or.inl (hw _ (List.mem_of_getElem? (i := 19) rfl))) (ty := .array (.object "java/lang/Object")) (by decide +kernel)
      have F2 : Fld Z h80 s1 own_K "size" "I" (.int (0 : Int32)) := D80 (Or.inl (hw _ (List.mem_of_getElem? (i := 26) rfl))) (ty := .int) (by decide)
      have x80 : Ext h0 h80 := own_ext_trans x78 E80
      have js : h0.size ≤ s1 := Nat.le_trans x78.1 (Nat.le_of_eq gs.symm)
      have ex81 := ex79.ext E80
      have ex82 := ei78.ext E80
      have g1 : n0 ≤ s1 := Nat.le_trans Z0 js
      refine own_go st80 ?_
      show own_G p e below _ T80 (mkF m 41 #[.val (.int i0), .val (.int i1), .val (.int i2), .val (.int i3), .val .null, .val (.ref r76), .val (.ref r78), .unset, .unset, .unset, .unset, .unset] [(.ref s1)])
      refine own_go (fun t k => XS.dup X80.here hx rfl (hb hby at_41) rfl rfl k) ?_
      show own_G p e below _ T80 (mkF m 42 #[.val (.int i0), .val (.int i1), .val (.int i2), .val (.int i3), .val .null, .val (.ref r76), .val (.ref r78), .unset, .unset, .unset, .unset, .unset] [(.ref s1), (.ref s1)])
      obtain ⟨T83, L83, v83, X83, ⟨rfl, Nq83, Kq83, Sq83⟩, st83⟩ := own_callN X80 hx hH (y := (⟨"com/example/halyard/halyard/engine/OperandStack", "<init>", "()V"⟩ : MethodName)) rfl hown (hw _ (List.mem_of_getElem? (i := 10) rfl)) (hw _ (List.mem_of_getElem? (i := 11) rfl)) (hw _ (List.mem_of_getElem? (i := 12) rfl)) (hw _ (List.mem_of_getElem? (i := 9) rfl)) (by decide) (c_init l Z a0 hw s1 h80 n0 (Nat.le_trans Z0 x80.1) A80 F1 F2 g1) e80 (argsL := []) (rest := [(.ref s1)]) (g := (mkF m 42 #[.val (.int i0), .val (.int i1), .val (.int i2), .val (.int i3), .val .null, .val (.ref r76), .val (.ref r78), .unset, .unset, .unset, .unset, .unset] [(.ref s1), (.ref s1)])) rfl (by rw [hml]; rfl) (ps := []) (r := none) (by decide +kernel) rfl rfl (W := 1) (by show 2 * 0 + _ ≤ _; exact Nat.le_of_eq rfl) (hb hby at_42) (by decide) (by decide) (by decide) (by decide)
      obtain ⟨ar, ga⟩ : ∃ z, z = h80.size := ⟨_, rfl⟩
      rw [← ga] at Sq83
      have ja : h0.size ≤ ar := Nat.le_trans x80.1 (Nat.le_of_eq ga.symm)
      have g2 : n0 ≤ ar := Nat.le_trans Z0 ja
      have x83 := own_ext_keep x80 Kq83 (allS js all0)
      have ex84 := ex81.keep Kq83
      have ex85 := ex82.keep Kq83
      have N83 := Fr.app N78 Nq83
      refine own_go st83 ?_
      show own_G p e below _ T83 (mkF m 45 #[.val (.int i0), .val (.int i1), .val (.int i2), .val (.int i3), .val .null, .val (.ref r76), .val (.ref r78), .unset, .unset, .unset, .unset, .unset] [(.ref s1)])
      refine own_go (fun t k => XS.astore X83.here hx rfl (hb hby at_45) rfl rfl (l' := #[.val (.int i0), .val (.int i1), .val (.int i2), .val (.int i3), .val .null, .val (.ref r76), .val (.ref r78), .val (.ref s1), .unset, .unset, .unset, .unset]) rfl k) ?_
      show own_G p e below _ T83 (mkF m 47 #[.val (.int i0), .val (.int i1), .val (.int i2), .val (.int i3), .val .null, .val (.ref r76), .val (.ref r78), .val (.ref s1), .unset, .unset, .unset, .unset] [])
      refine own_go (fun t k => XS.aload X83.here hx rfl (hb hby at_47) rfl rfl k) ?_
      show own_G p e below _ T83 (mkF m 49 #[.val (.int i0), .val (.int i1), .val (.int i2), .val (.int i3), .val .null, .val (.ref r76), .val (.ref r78), .val (.ref s1), .unset, .unset, .unset, .unset] [(.ref s1)])
      refine own_go (fun t k => XS.aload X83.here hx rfl (hb hby at_49) rfl rfl k) ?_
      show own_G p e below _ T83 (mkF m 51 #[.val (.int i0), .val (.int i1), .val (.int i2), .val (.int i3), .val .null, .val (.ref r76), .val (.ref r78), .val (.ref s1), .unset, .unset, .unset, .unset] [.null, (.ref s1)])
      obtain ⟨T86, L86, v86, X86, ⟨rfl, Nq86, Kq86, Sq86⟩, st86⟩ := own_callV X83 hx hH (y := (⟨"com/example/halyard/halyard/engine/OperandStack", "push", "(Ljava/lang/Object;)V"⟩ : MethodName)) (z := (⟨"com/example/halyard/halyard/engine/OperandStack", "push", "(Ljava/lang/Object;)V"⟩ : MethodName)) hown (hw _ (List.mem_of_getElem? (i := 20) rfl)) (hw _ (List.mem_of_getElem? (i := 21) rfl)) (hw _ (List.mem_of_getElem? (i := 23) rfl)) (hw _ (List.mem_of_getElem? (i := 23) rfl)) (hw _ (List.mem_of_getElem? (i := 22) rfl)) (hw _ (List.mem_of_getElem? (i := 24) rfl)) (hw _ (List.mem_of_getElem? (i := 9) rfl)) (notFace_of_selects (args := #[]) (mvT hZ (hw _ (List.mem_of_getElem? (i := 23) rfl)))) (by decide) (c_push_0N l Z a0 hw s1 ar .null .null .null .null T83.heap n0 (Nat.le_trans Z0 x83.1) Sq83 g1 g2) rfl Sq83.1 (argsL := [.null]) (rest := []) (g := (mkF m 51 #[.val (.int i0), .val (.int i1), .val (.int i2), .val (.int i3), .val .null, .val (.ref r76), .val (.ref r78), .val (.ref s1), .unset, .unset, .unset, .unset] [.null, (.ref s1)])) rfl (by rw [hml]; rfl) (ps := [(.object "java/lang/Object")]) (r := none) (by decide +kernel) rfl rfl (W := 0) (by show 2 * 0 + _ ≤ _; exact Nat.le_of_eq rfl) (hb hby at_51) (by decide) (by decide) (by decide) (by decide)
      have x86 := own_ext_keep x83 Kq86 (allS js (allS ja all0))
      have ex87 := ex84.keep Kq86
      have ex88 := ex85.keep Kq86
      have N86 := Fr.app N83 Nq86
      refine own_go st86 ?_
      show own_G p e below _ T86 (mkF m 54 #[.val (.int i0), .val (.int i1), .val (.int i2), .val (.int i3), .val .null, .val (.ref r76), .val (.ref r78), .val (.ref s1), .unset, .unset, .unset, .unset] [])
      refine own_go (fun t k => XS.aload X86.here hx rfl (hb hby at_54) rfl rfl k) ?_
      show own_G p e below _ T86 (mkF m 56 #[.val (.int i0), .val (.int i1), .val (.int i2), .val (.int i3), .val .null, .val (.ref r76), .val (.ref r78), .val (.ref s1), .unset, .unset, .unset, .unset] [(.ref s1)])
      refine own_go (fun t k => XS.aload X86.here hx rfl (hb hby at_56) rfl rfl k) ?_
      show own_G p e below _ T86 (mkF m 58 #[.val (.int i0), .val (.int i1), .val (.int i2), .val (.int i3), .val .null, .val (.ref r76), .val (.ref r78), .val (.ref s1), .unset, .unset, .unset, .unset] [(.ref r76), (.ref s1)])
      obtain ⟨T89, L89, v89, X89, ⟨rfl, Nq89, Kq89, Sq89⟩, st89⟩ := own_callV X86 hx hH (y := (⟨"com/example/halyard/halyard/engine/OperandStack", "push", "(Ljava/lang/Object;)V"⟩ : MethodName)) (z := (⟨"com/example/halyard/halyard/engine/OperandStack", "push", "(Ljava/lang/Object;)V"⟩ : MethodName)) hown (hw _ (List.mem_of_getElem? (i := 20) rfl)) (hw _ (List.mem_of_getElem? (i := 21) rfl)) (hw _ (List.mem_of_getElem? (i := 23) rfl)) (hw _ (List.mem_of_getElem? (i := 23) rfl)) (hw _ (List.mem_of_getElem? (i := 22) rfl)) (hw _ (List.mem_of_getElem? (i := 24) rfl)) (hw _ (List.mem_of_getElem? (i := 9) rfl)) (notFace_of_selects (args := #[]) (mvT hZ (hw _ (List.mem_of_getElem? (i := 23) rfl)))) (by decide) (c_push_1A l Z a0 hw s1 ar r76 .null .null .null .null T86.heap n0 (Nat.le_trans Z0 x86.1) Sq86 (own_ST_sto Sq86 (Ins.of_exa ex87 (hw _ (List.mem_of_getElem? (i := 27) rfl)))) g1 g2) rfl Sq86.1 (argsL := [(.ref r76)]) (rest := []) (g := (mkF m 58 #[.val (.int i0), .val (.int i1), .val (.int i2), .val (.int i3), .val .null, .val (.ref r76), .val (.ref r78), .val (.ref s1), .unset, .unset, .unset, .unset] [(.ref r76), (.ref s1)])) rfl (by rw [hml]; rfl) (ps := [(.object "java/lang/Object")]) (r := none) (by decide +kernel) rfl rfl (W := 0) (by show 2 * 0 + _ ≤ _; exact Nat.le_of_eq rfl) (hb hby at_58) (by decide) (by decide) (by decide) (by decide)
      have x89 := own_ext_keep x86 Kq89 (allS js (allS ja all0))
      have ex90 := ex87.keep Kq89
      have ex91 := ex88.keep Kq89
      have N89 := Fr.app N86 Nq89
      refine own_go st89 ?_
      show own_G p e below _ T89 (mkF m 61 #[.val (.int i0), .val (.int i1), .val (.int i2), .val (.int i3), .val .null, .val (.ref r76), .val (.ref r78), .val (.ref s1), .unset, .unset, .unset, .unset] [])
      refine own_go (fun t k => XS.aload X89.here hx rfl (hb hby at_61) rfl rfl k) ?_
      show own_G p e below _ T89 (mkF m 63 #[.val (.int i0), .val (.int i1), .val (.int i2), .val (.int i3), .val .null, .val (.ref r76), .val (.ref r78), .val (.ref s1), .unset, .unset, .unset, .unset] [(.ref s1)])
      refine own_go (fun t k => XS.aload X89.here hx rfl (hb hby at_63) rfl rfl k) ?_
      show own_G p e below _ T89 (mkF m 65 #[.val (.int i0), .val (.int i1), .val (.int i2), .val (.int i3), .val .null, .val (.ref r76), .val (.ref r78), .val (.ref s1), .unset, .unset, .unset, .unset] [(.ref r78), (.ref s1)])
      obtain ⟨T92, L92, v92, X92, ⟨rfl, Nq92, Kq92, Sq92⟩, st92⟩ := own_callV X89 hx hH (y := (⟨"com/example/halyard/halyard/engine/OperandStack", "push", "(Ljava/lang/Object;)V"⟩ : MethodName)) (z := (⟨"com/example/halyard/halyard/engine/OperandStack", "push", "(Ljava/lang/Object;)V"⟩ : MethodName)) hown (hw _ (List.mem_of_getElem? (i := 20) rfl)) (hw _ (List.mem_of_getElem? (i := 21) rfl)) (hw _ (List.mem_of_getElem? (i := 23) rfl)) (hw _ (List.mem_of_getElem? (i := 23) rfl)) (hw _ (List.mem_of_getElem? (i := 22) rfl)) (hw _ (List.mem_of_getElem? (i := 24) rfl)) (hw _ (List.mem_of_getElem? (i := 9) rfl)) (notFace_of_selects (args := #[]) (mvT hZ (hw _ (List.mem_of_getElem? (i := 23) rfl)))) (by decide) (c_push_2A l Z a0 hw s1 ar r78 .null (.ref r76) .null .null T89.heap n0 (Nat.le_trans Z0 x89.1) Sq89 (own_ST_sto Sq89 (Ins.of_exa ex91 (hw _ (List.mem_of_getElem? (i := 27) rfl)))) g1 g2) rfl Sq89.1 (argsL := [(.ref r78)]) (rest := []) (g := (mkF m 65 #[.val (.int i0), .val (.int i1), .val (.int i2), .val (.int i3), .val .null, .val (.ref r76), .val (.ref r78), .val (.ref s1), .unset, .unset, .unset, .unset] [(.ref r78), (.ref s1)])) rfl (by rw [hml]; rfl) (ps := [(.object "java/lang/Object")]) (r := none) (by decide +kernel) rfl rfl (W := 0) (by show 2 * 0 + _ ≤ _; exact Nat.le_of_eq rfl) (hb hby at_65) (by decide) (by decide) (by decide) (by decide)
      have x92 := own_ext_keep x89 Kq92 (allS js (allS ja all0))
      have ex93 := ex90.keep Kq92
      have ex94 := ex91.keep Kq92
      have N92 := Fr.app N89 Nq92
      refine own_go st92 ?_
      show own_G p e below _ T92 (mkF m 68 #[.val (.int i0), .val (.int i1), .val (.int i2), .val (.int i3), .val .null, .val (.ref r76), .val (.ref r78), .val (.ref s1), .unset, .unset, .unset, .unset] [])
      refine own_go (fun t k => XS.aload X92.here hx rfl (hb hby at_68) rfl rfl k) ?_
      show own_G p e below _ T92 (mkF m 70 #[.val (.int i0), .val (.int i1), .val (.int i2), .val (.int i3), .val .null, .val (.ref r76), .val (.ref r78), .val (.ref s1), .unset, .unset, .unset, .unset] [(.ref s1)])
      obtain ⟨T95, L95, v95, X95, ⟨rfl, Nq95, Kq95, Sq95⟩, st95⟩ := own_callV X92 hx hH (y := (⟨"com/example/halyard/halyard/engine/OperandStack", "pop", "()Ljava/lang/Object;"⟩ : MethodName)) (z := (⟨"com/example/halyard/halyard/engine/OperandStack", "pop", "()Ljava/lang/Object;"⟩ : MethodName)) hown (hw _ (List.mem_of_getElem? (i := 28) rfl)) (hw _ (List.mem_of_getElem? (i := 29) rfl)) (hw _ (List.mem_of_getElem? (i := 31) rfl)) (hw _ (List.mem_of_getElem? (i := 31) rfl)) (hw _ (List.mem_of_getElem? (i := 30) rfl)) (hw _ (List.mem_of_getElem? (i := 32) rfl)) (hw _ (List.mem_of_getElem? (i := 9) rfl)) (notFace_of_selects (args := #[]) (mvT hZ (hw _ (List.mem_of_getElem? (i := 31) rfl)))) (by decide) (c_pop_3 l Z a0 hw s1 ar .null (.ref r76) (.ref r78) .null T92.heap n0 (Nat.le_trans Z0 x92.1) Sq92 rfl g1 g2) rfl Sq92.1 (argsL := []) (rest := []) (g := (mkF m 70 #[.val (.int i0), .val (.int i1), .val (.int i2), .val (.int i3), .val .null, .val (.ref r76), .val (.ref r78), .val (.ref s1), .unset, .unset, .unset, .unset] [(.ref s1)])) rfl (by rw [hml]; rfl) (ps := []) (r := (some (.object "java/lang/Object"))) (by decide +kernel) rfl rfl (W := 0) (by show 2 * 0 + _ ≤ _; exact Nat.le_of_eq rfl) (hb hby at_70) (by decide) (by decide) (by decide) (by decide)
      have x95 := own_ext_keep x92 Kq95 (allS js (allS ja all0))
      have ex96 := ex93.keep Kq95
      have ex97 := ex94.keep Kq95
      have N95 := Fr.app N92 Nq95
      refine own_go st95 ?_
      show own_G p e below _ T95 (mkF m 73 #[.val (.int i0), .val (.int i1), .val (.int i2), .val (.int i3), .val .null, .val (.ref r76), .val (.ref r78), .val (.ref s1), .unset, .unset, .unset, .unset] [(.ref r78)])
      refine own_go (fun t k => XS.astore X95.here hx rfl (hb hby at_73) rfl rfl (l' := #[.val (.int i0), .val (.int i1), .val (.int i2), .val (.int i3), .val .null, .val (.ref r76), .val (.ref r78), .val (.ref s1), .val (.ref r78), .unset, .unset, .unset]) rfl k) ?_
      show own_G p e below _ T95 (mkF m 75 #[.val (.int i0), .val (.int i1), .val (.int i2), .val (.int i3), .val .null, .val (.ref r76), .val (.ref r78), .val (.ref s1), .val (.ref r78), .unset, .unset, .unset] [])
      refine own_go (fun t k => XS.aload X95.here hx rfl (hb hby at_75) rfl rfl k) ?_
      show own_G p e below _ T95 (mkF m 77 #[.val (.int i0), .val (.int i1), .val (.int i2), .val (.int i3), .val .null, .val (.ref r76), .val (.ref r78), .val (.ref s1), .val (.ref r78), .unset, .unset, .unset] [(.ref s1)])
      refine own_go (fun t k => XS.iconst X95.here hx rfl (hb hby at_77) k) ?_
      show own_G p e below _ T95 (mkF m 78 #[.val (.int i0), .val (.int i1), .val (.int i2), .val (.int i3), .val .null, .val (.ref r76), .val (.ref r78), .val (.ref s1), .val (.ref r78), .unset, .unset, .unset] [(.int (1 : Int32)), (.ref s1)])
      refine own_go (fun t k => XS.iconst X95.here hx rfl (hb hby at_78) k) ?_
      show own_G p e below _ T95 (mkF m 79 #[.val (.int i0), .val (.int i1), .val (.int i2), .val (.int i3), .val .null, .val (.ref r76), .val (.ref r78), .val (.ref s1), .val (.ref r78), .unset, .unset, .unset] [(.int (1 : Int32)), (.int (1 : Int32)), (.ref s1)])
      obtain ⟨T98, L98, v98, X98, ⟨cK98, rfl, rfl, md98, q98⟩, st98⟩ := own_callV X95 hx hH (y := (⟨"com/example/halyard/halyard/engine/OperandStack", "operand", "(II)Lcom/example/halyard/halyard/engine/Code;"⟩ : MethodName)) (z := (⟨"com/example/halyard/halyard/engine/OperandStack", "operand", "(II)Lcom/example/halyard/halyard/engine/Code;"⟩ : MethodName)) hown (hw _ (List.mem_of_getElem? (i := 38) rfl)) (hw _ (List.mem_of_getElem? (i := 39) rfl)) (hw _ (List.mem_of_getElem? (i := 41) rfl)) (hw _ (List.mem_of_getElem? (i := 41) rfl)) (hw _ (List.mem_of_getElem? (i := 40) rfl)) (hw _ (List.mem_of_getElem? (i := 42) rfl)) (hw _ (List.mem_of_getElem? (i := 9) rfl)) (notFace_of_selects (args := #[]) (mvT hZ (hw _ (List.mem_of_getElem? (i := 41) rfl)))) (by decide) (c_operand l Z a0 hw s1 (1 : Int32) (1 : Int32) T95.heap) rfl Sq95.1 (argsL := [(.int (1 : Int32)), (.int (1 : Int32))]) (rest := []) (g := (mkF m 79 #[.val (.int i0), .val (.int i1), .val (.int i2), .val (.int i3), .val .null, .val (.ref r76), .val (.ref r78), .val (.ref s1), .val (.ref r78), .unset, .unset, .unset] [(.int (1 : Int32)), (.int (1 : Int32)), (.ref s1)])) rfl (by rw [hml]; rfl) (ps := [.int, .int]) (r := (some (.object "com/example/halyard/halyard/engine/Code"))) (by decide +kernel) rfl rfl (W := 0) (by show 2 * 0 + _ ≤ _; exact Nat.le_of_eq rfl) (hb hby at_79) (by decide) (by decide) (by decide) (by decide)
      have z98 : Ext T95.heap T98.heap := by rw [q98]; exact own_ext_push _ _
      have c98 : T98.heap[T95.heap.size]? = some { cls := cK98, slots := #[.ref s1, .int (1 : Int32), .int (1 : Int32)], vm := .none } := by rw [q98]; exact own_push_at _ _
      have x98 := own_ext_trans x95 z98
      have S98 := own_ST_ext z98 Sq95
      have ex99 := ex96.ext z98
      have ex100 := ex97.ext z98
      have N98 := Fr.app N95 (Fr.nil n0)
      refine own_go st98 ?_
      show own_G p e below _ T98 (mkF m 82 #[.val (.int i0), .val (.int i1), .val (.int i2), .val (.int i3), .val .null, .val (.ref r76), .val (.ref r78), .val (.ref s1), .val (.ref r78), .unset, .unset, .unset] [(.ref T95.heap.size)])
      refine own_go (fun t k => XS.aconstNull X98.here hx rfl (hb hby at_82) k) ?_
      show own_G p e below _ T98 (mkF m 83 #[.val (.int i0), .val (.int i1), .val (.int i2), .val (.int i3), .val .null, .val (.ref r76), .val (.ref r78), .val (.ref s1), .val (.ref r78), .unset, .unset, .unset] [.null, (.ref T95.heap.size)])
      obtain ⟨cB101, hB101, oB101⟩ := own_ST_cell S98
      obtain ⟨T101, X101, e101, st101⟩ := own_lam X98 hx hH (own := "com/example/halyard/halyard/engine/OperandStackPopPinLaw") (zz := ⟨"com/example/halyard/halyard/engine/OperandStack", "push", "(Ljava/lang/Object;)V"⟩) hown (hw _ (List.mem_of_getElem? (i := 47) rfl)) (hw _ (List.mem_of_getElem? (i := 48) rfl)) (hw _ (List.mem_of_getElem? (i := 49) rfl)) (hw _ (List.mem_of_getElem? (i := 50) rfl)) (hw _ (List.mem_of_getElem? (i := 51) rfl)) (hw _ (List.mem_of_getElem? (i := 52) rfl)) (hw _ (List.mem_of_getElem? (i := 9) rfl)) (hw _ (List.mem_of_getElem? (i := 23) rfl)) rfl (hw _ (List.mem_of_getElem? (i := 46) rfl)) md98 rfl c98 hB101 oB101 (w := .null) rfl (c_lam_2 l Z a0 hw s1 ar (2 : Int32) (1 : Int32) (1 : Int32) .null (.ref r76) .null .null T98.heap S98 rfl (by decide)) rfl rfl (g := (mkF m 83 #[.val (.int i0), .val (.int i1), .val (.int i2), .val (.int i3), .val .null, .val (.ref r76), .val (.ref r78), .val (.ref s1), .val (.ref r78), .unset, .unset, .unset] [.null, (.ref T95.heap.size)])) rfl (by rw [hml]; rfl) (rest := []) rfl (hb hby at_83) (by decide) (by show 2 * 0 + 0 + (2 + 11) + ((4 + 11) + 0) ≤ 3216; decide) (by decide) (by decide)
      refine own_go st101 ?_
      show own_G p e below _ T101 (mkF m 88 #[.val (.int i0), .val (.int i1), .val (.int i2), .val (.int i3), .val .null, .val (.ref r76), .val (.ref r78), .val (.ref s1), .val (.ref r78), .unset, .unset, .unset] [.null])
      refine own_go (fun t k => XS.astore X101.here hx rfl (hb hby at_88) rfl rfl (l' := #[.val (.int i0), .val (.int i1), .val (.int i2), .val (.int i3), .val .null, .val (.ref r76), .val (.ref r78), .val (.ref s1), .val (.ref r78), .val .null, .unset, .unset]) rfl k) ?_
      show own_G p e below _ T101 (mkF m 90 #[.val (.int i0), .val (.int i1), .val (.int i2), .val (.int i3), .val .null, .val (.ref r76), .val (.ref r78), .val (.ref s1), .val (.ref r78), .val .null, .unset, .unset] [])
      refine own_go (fun t k => XS.aload X101.here hx rfl (hb hby at_90) rfl rfl k) ?_
      show own_G p e below _ T101 (mkF m 92 #[.val (.int i0), .val (.int i1), .val (.int i2), .val (.int i3), .val .null, .val (.ref r76), .val (.ref r78), .val (.ref s1), .val (.ref r78), .val .null, .unset, .unset] [(.ref s1)])
      obtain ⟨T102, L102, v102, X102, ⟨rfl, Nq102, Kq102, Sq102⟩, st102⟩ := own_callV X101 hx hH (y := (⟨"com/example/halyard/halyard/engine/OperandStack", "pop", "()Ljava/lang/Object;"⟩ : MethodName)) (z := (⟨"com/example/halyard/halyard/engine/OperandStack", "pop", "()Ljava/lang/Object;"⟩ : MethodName)) hown (hw _ (List.mem_of_getElem? (i := 28) rfl)) (hw _ (List.mem_of_getElem? (i := 29) rfl)) (hw _ (List.mem_of_getElem? (i := 31) rfl)) (hw _ (List.mem_of_getElem? (i := 31) rfl)) (hw _ (List.mem_of_getElem? (i := 30) rfl)) (hw _ (List.mem_of_getElem? (i := 32) rfl)) (hw _ (List.mem_of_getElem? (i := 9) rfl)) (notFace_of_selects (args := #[]) (mvT hZ (hw _ (List.mem_of_getElem? (i := 31) rfl)))) (by decide) (c_pop_2 l Z a0 hw s1 ar .null (.ref r76) .null .null T98.heap n0 (Nat.le_trans Z0 x98.1) S98 rfl g1 g2) e101 S98.1 (argsL := []) (rest := []) (g := (mkF m 92 #[.val (.int i0), .val (.int i1), .val (.int i2), .val (.int i3), .val .null, .val (.ref r76), .val (.ref r78), .val (.ref s1), .val (.ref r78), .val .null, .unset, .unset] [(.ref s1)])) rfl (by rw [hml]; rfl) (ps := []) (r := (some (.object "java/lang/Object"))) (by decide +kernel) rfl rfl (W := 0) (by show 2 * 0 + _ ≤ _; exact Nat.le_of_eq rfl) (hb hby at_92) (by decide) (by decide) (by decide) (by decide)
      have x102 := own_ext_keep x98 Kq102 (allS js (allS ja all0))
      have ex103 := ex99.keep Kq102
      have ex104 := ex100.keep Kq102
      have N102 := Fr.app N98 Nq102
      refine own_go st102 ?_
      show own_G p e below _ T102 (mkF m 95 #[.val (.int i0), .val (.int i1), .val (.int i2), .val (.int i3), .val .null, .val (.ref r76), .val (.ref r78), .val (.ref s1), .val (.ref r78), .val .null, .unset, .unset] [(.ref r76)])
      refine own_go (fun t k => XS.astore X102.here hx rfl (hb hby at_95) rfl rfl (l' := #[.val (.int i0), .val (.int i1), .val (.int i2), .val (.int i3), .val .null, .val (.ref r76), .val (.ref r78), .val (.ref s1), .val (.ref r78), .val .null, .val (.ref r76), .unset]) rfl k) ?_
      show own_G p e below _ T102 (mkF m 97 #[.val (.int i0), .val (.int i1), .val (.int i2), .val (.int i3), .val .null, .val (.ref r76), .val (.ref r78), .val (.ref s1), .val (.ref r78), .val .null, .val (.ref r76), .unset] [])
      refine own_go (fun t k => XS.aload X102.here hx rfl (hb hby at_97) rfl rfl k) ?_
      show own_G p e below _ T102 (mkF m 99 #[.val (.int i0), .val (.int i1), .val (.int i2), .val (.int i3), .val .null, .val (.ref r76), .val (.ref r78), .val (.ref s1), .val (.ref r78), .val .null, .val (.ref r76), .unset] [(.ref s1)])
      refine own_go (fun t k => XS.iconst X102.here hx rfl (hb hby at_99) k) ?_
      show own_G p e below _ T102 (mkF m 100 #[.val (.int i0), .val (.int i1), .val (.int i2), .val (.int i3), .val .null, .val (.ref r76), .val (.ref r78), .val (.ref s1), .val (.ref r78), .val .null, .val (.ref r76), .unset] [(.int (0 : Int32)), (.ref s1)])
      refine own_go (fun t k => XS.iconst X102.here hx rfl (hb hby at_100) k) ?_
      show own_G p e below _ T102 (mkF m 101 #[.val (.int i0), .val (.int i1), .val (.int i2), .val (.int i3), .val .null, .val (.ref r76), .val (.ref r78), .val (.ref s1), .val (.ref r78), .val .null, .val (.ref r76), .unset] [(.int (1 : Int32)), (.int (0 : Int32)), (.ref s1)])
      obtain ⟨T105, L105, v105, X105, ⟨cK105, rfl, rfl, md105, q105⟩, st105⟩ := own_callV X102 hx hH (y := (⟨"com/example/halyard/halyard/engine/OperandStack", "operand", "(II)Lcom/example/halyard/halyard/engine/Code;"⟩ : MethodName)) (z := (⟨"com/example/halyard/halyard/engine/OperandStack", "operand", "(II)Lcom/example/halyard/halyard/engine/Code;"⟩ : MethodName)) hown (hw _ (List.mem_of_getElem? (i := 38) rfl)) (hw _ (List.mem_of_getElem? (i := 39) rfl)) (hw _ (List.mem_of_getElem? (i := 41) rfl)) (hw _ (List.mem_of_getElem? (i := 41) rfl)) (hw _ (List.mem_of_getElem? (i := 40) rfl)) (hw _ (List.mem_of_getElem? (i := 42) rfl)) (hw _ (List.mem_of_getElem? (i := 9) rfl)) (notFace_of_selects (args := #[]) (mvT hZ (hw _ (List.mem_of_getElem? (i := 41) rfl)))) (by decide) (c_operand l Z a0 hw s1 (0 : Int32) (1 : Int32) T102.heap) rfl Sq102.1 (argsL := [(.int (0 : Int32)), (.int (1 : Int32))]) (rest := []) (g := (mkF m 101 #[.val (.int i0), .val (.int i1), .val (.int i2), .val (.int i3), .val .null, .val (.ref r76), .val (.ref r78), .val (.ref s1), .val (.ref r78), .val .null, .val (.ref r76), .unset] [(.int (1 : Int32)), (.int (0 : Int32)), (.ref s1)])) rfl (by rw [hml]; rfl) (ps := [.int, .int]) (r := (some (.object "com/example/halyard/halyard/engine/Code"))) (by decide +kernel) rfl rfl (W := 0) (by show 2 * 0 + _ ≤ _; exact Nat.le_of_eq rfl) (hb hby at_101) (by decide) (by decide) (by decide) (by decide)
      have z105 : Ext T102.heap T105.heap := by rw [q105]; exact own_ext_push _ _
      have c105 : T105.heap[T102.heap.size]? = some { cls := cK105, slots := #[.ref s1, .int (1 : Int32), .int (0 : Int32)], vm := .none } := by rw [q105]; exact own_push_at _ _
      have x105 := own_ext_trans x102 z105
      have S105 := own_ST_ext z105 Sq102
      have ex106 := ex103.ext z105
      have ex107 := ex104.ext z105
      have N105 := Fr.app N102 (Fr.nil n0)
      refine own_go st105 ?_
      show own_G p e below _ T105 (mkF m 104 #[.val (.int i0), .val (.int i1), .val (.int i2), .val (.int i3), .val .null, .val (.ref r76), .val (.ref r78), .val (.ref s1), .val (.ref r78), .val .null, .val (.ref r76), .unset] [(.ref T102.heap.size)])
      refine own_go (fun t k => XS.aconstNull X105.here hx rfl (hb hby at_104) k) ?_
      show own_G p e below _ T105 (mkF m 105 #[.val (.int i0), .val (.int i1), .val (.int i2), .val (.int i3), .val .null, .val (.ref r76), .val (.ref r78), .val (.ref s1), .val (.ref r78), .val .null, .val (.ref r76), .unset] [.null, (.ref T102.heap.size)])
      obtain ⟨cB108, hB108, oB108⟩ := own_ST_cell S105
      obtain ⟨T108, X108, e108, st108⟩ := own_lam X105 hx hH (own := "com/example/halyard/halyard/engine/OperandStackPopPinLaw") (zz := ⟨"com/example/halyard/halyard/engine/OperandStack", "push", "(Ljava/lang/Object;)V"⟩) hown (hw _ (List.mem_of_getElem? (i := 47) rfl)) (hw _ (List.mem_of_getElem? (i := 48) rfl)) (hw _ (List.mem_of_getElem? (i := 49) rfl)) (hw _ (List.mem_of_getElem? (i := 50) rfl)) (hw _ (List.mem_of_getElem? (i := 51) rfl)) (hw _ (List.mem_of_getElem? (i := 52) rfl)) (hw _ (List.mem_of_getElem? (i := 9) rfl)) (hw _ (List.mem_of_getElem? (i := 23) rfl)) rfl (hw _ (List.mem_of_getElem? (i := 46) rfl)) md105 rfl c105 hB108 oB108 (w := .null) rfl (c_lam_0 l Z a0 hw s1 ar (1 : Int32) (1 : Int32) (0 : Int32) .null .null .null .null T105.heap S105 rfl (by decide)) rfl rfl (g := (mkF m 105 #[.val (.int i0), .val (.int i1), .val (.int i2), .val (.int i3), .val .null, .val (.ref r76), .val (.ref r78), .val (.ref s1), .val (.ref r78), .val .null, .val (.ref r76), .unset] [.null, (.ref T102.heap.size)])) rfl (by rw [hml]; rfl) (rest := []) rfl (hb hby at_105) (by decide) (by show 2 * 0 + 0 + (2 + 11) + ((4 + 11) + 0) ≤ 3216; decide) (by decide) (by decide)
      refine own_go st108 ?_
      show own_G p e below _ T108 (mkF m 110 #[.val (.int i0), .val (.int i1), .val (.int i2), .val (.int i3), .val .null, .val (.ref r76), .val (.ref r78), .val (.ref s1), .val (.ref r78), .val .null, .val (.ref r76), .unset] [.null])
      refine own_go (fun t k => XS.astore X108.here hx rfl (hb hby at_110) rfl rfl (l' := #[.val (.int i0), .val (.int i1), .val (.int i2), .val (.int i3), .val .null, .val (.ref r76), .val (.ref r78), .val (.ref s1), .val (.ref r78), .val .null, .val (.ref r76), .val .null]) rfl k) ?_
      show own_G p e below _ T108 (mkF m 112 #[.val (.int i0), .val (.int i1), .val (.int i2), .val (.int i3), .val .null, .val (.ref r76), .val (.ref r78), .val (.ref s1), .val (.ref r78), .val .null, .val (.ref r76), .val .null] [])
      refine own_go (fun t k => XS.aload X108.here hx rfl (hb hby at_112) rfl rfl k) ?_
      show own_G p e below _ T108 (mkF m 114 #[.val (.int i0), .val (.int i1), .val (.int i2), .val (.int i3), .val .null, .val (.ref r76), .val (.ref r78), .val (.ref s1), .val (.ref r78), .val .null, .val (.ref r76), .val .null] [(.ref r78)])
      refine own_go (fun t k => XS.aload X108.here hx rfl (hb hby at_114) rfl rfl k) ?_
      show own_G p e below _ T108 (mkF m 116 #[.val (.int i0), .val (.int i1), .val (.int i2), .val (.int i3), .val .null, .val (.ref r76), .val (.ref r78), .val (.ref s1), .val (.ref r78), .val .null, .val (.ref r76), .val .null] [(.ref r78), (.ref r78)])
      refine own_go (fun t k => Jvm.Free.XT.acmpNo X108.here hx rfl (hb hby at_116) rfl rfl rfl (own_acnF rfl) k) ?_
      show own_G p e below _ T108 (mkF m 119 #[.val (.int i0), .val (.int i1), .val (.int i2), .val (.int i3), .val .null, .val (.ref r76), .val (.ref r78), .val (.ref s1), .val (.ref r78), .val .null, .val (.ref r76), .val .null] [])
      refine own_go (fun t k => XS.aload X108.here hx rfl (hb hby at_119) rfl rfl k) ?_
      show own_G p e below _ T108 (mkF m 121 #[.val (.int i0), .val (.int i1), .val (.int i2), .val (.int i3), .val .null, .val (.ref r76), .val (.ref r78), .val (.ref s1), .val (.ref r78), .val .null, .val (.ref r76), .val .null] [.null])
      refine own_go (fun t k => XT.ifnonnullNo X108.here hx rfl (hb hby at_121) rfl k) ?_
      show own_G p e below _ T108 (mkF m 124 #[.val (.int i0), .val (.int i1), .val (.int i2), .val (.int i3), .val .null, .val (.ref r76), .val (.ref r78), .val (.ref s1), .val (.ref r78), .val .null, .val (.ref r76), .val .null] [])
      refine own_go (fun t k => XS.aload X108.here hx rfl (hb hby at_124) rfl rfl k) ?_
      show own_G p e below _ T108 (mkF m 126 #[.val (.int i0), .val (.int i1), .val (.int i2), .val (.int i3), .val .null, .val (.ref r76), .val (.ref r78), .val (.ref s1), .val (.ref r78), .val .null, .val (.ref r76), .val .null] [(.ref r76)])
      refine own_go (fun t k => XS.aload X108.here hx rfl (hb hby at_126) rfl rfl k) ?_
      show own_G p e below _ T108 (mkF m 128 #[.val (.int i0), .val (.int i1), .val (.int i2), .val (.int i3), .val .null, .val (.ref r76), .val (.ref r78), .val (.ref s1), .val (.ref r78), .val .null, .val (.ref r76), .val .null] [(.ref r76), (.ref r76)])
      refine own_go (fun t k => Jvm.Free.XT.acmpNo X108.here hx rfl (hb hby at_128) rfl rfl rfl (own_acnF rfl) k) ?_
      show own_G p e below _ T108 (mkF m 131 #[.val (.int i0), .val (.int i1), .val (.int i2), .val (.int i3), .val .null, .val (.ref r76), .val (.ref r78), .val (.ref s1), .val (.ref r78), .val .null, .val (.ref r76), .val .null] [])
      refine own_go (fun t k => XS.aload X108.here hx rfl (hb hby at_131) rfl rfl k) ?_
      show own_G p e below _ T108 (mkF m 133 #[.val (.int i0), .val (.int i1), .val (.int i2), .val (.int i3), .val .null, .val (.ref r76), .val (.ref r78), .val (.ref s1), .val (.ref r78), .val .null, .val (.ref r76), .val .null] [.null])
      refine own_go (fun t k => XS.aload X108.here hx rfl (hb hby at_133) rfl rfl k) ?_
      show own_G p e below _ T108 (mkF m 135 #[.val (.int i0), .val (.int i1), .val (.int i2), .val (.int i3), .val .null, .val (.ref r76), .val (.ref r78), .val (.ref s1), .val (.ref r78), .val .null, .val (.ref r76), .val .null] [.null, .null])
      refine own_go (fun t k => Jvm.Free.XT.acmpNo X108.here hx rfl (hb hby at_135) rfl rfl rfl (by decide) k) ?_
      show own_G p e below _ T108 (mkF m 138 #[.val (.int i0), .val (.int i1), .val (.int i2), .val (.int i3), .val .null, .val (.ref r76), .val (.ref r78), .val (.ref s1), .val (.ref r78), .val .null, .val (.ref r76), .val .null] [])
      refine own_go (fun t k => XS.iconst X108.here hx rfl (hb hby at_138) k) ?_
      show own_G p e below _ T108 (mkF m 139 #[.val (.int i0), .val (.int i1), .val (.int i2), .val (.int i3), .val .null, .val (.ref r76), .val (.ref r78), .val (.ref s1), .val (.ref r78), .val .null, .val (.ref r76), .val .null] [(.int (1 : Int32))])
      refine own_go (fun t k => XS.goto X108.here hx rfl (pc0 := 139) (pc' := 143) rfl (hb hby at_139) (by decide) (by decide) k) ?_
      show own_G p e below _ T108 (mkF m 143 #[.val (.int i0), .val (.int i1), .val (.int i2), .val (.int i3), .val .null, .val (.ref r76), .val (.ref r78), .val (.ref s1), .val (.ref r78), .val .null, .val (.ref r76), .val .null] [(.int (1 : Int32))])
      exact own_retN X108 hx hlk hret (by simp) (hb hby at_143) (by decide) (by decide) ⟨rfl, N105⟩
    ·
      refine own_go (fun t k => XS.ifNo X76.here hx rfl (hb hby at_25) rfl (Jvm.Free.XT.i0_eq_f hc77) k) ?_
      show own_G p e below _ T76 (mkF m 28 #[.val (.int i0), .val (.int i1), .val (.int i2), .val (.int i3), .val .null, .val (.ref r76), .unset, .unset, .unset, .unset, .unset, .unset] [])
      refine own_go (fun t k => XS.aconstNull X76.here hx rfl (hb hby at_28) k) ?_
      show own_G p e below _ T76 (mkF m 29 #[.val (.int i0), .val (.int i1), .val (.int i2), .val (.int i3), .val .null, .val (.ref r76), .unset, .unset, .unset, .unset, .unset, .unset] [.null])
      refine own_go (fun t k => XS.goto X76.here hx rfl (pc0 := 29) (pc' := 36) rfl (hb hby at_29) (by decide) (by decide) k) ?_
      show own_G p e below _ T76 (mkF m 36 #[.val (.int i0), .val (.int i1), .val (.int i2), .val (.int i3), .val .null, .val (.ref r76), .unset, .unset, .unset, .unset, .unset, .unset] [.null])
      refine own_go (fun t k => XS.astore X76.here hx rfl (hb hby at_36) rfl rfl (l' := #[.val (.int i0), .val (.int i1), .val (.int i2), .val (.int i3), .val .null, .val (.ref r76), .val .null, .unset, .unset, .unset, .unset, .unset]) rfl k) ?_
      show own_G p e below _ T76 (mkF m 38 #[.val (.int i0), .val (.int i1), .val (.int i2), .val (.int i3), .val .null, .val (.ref r76), .val .null, .unset, .unset, .unset, .unset, .unset] [])
      obtain ⟨T109, h109, X109, e109, E109, A109, D109, -, st109⟩ := newO X76 hx hZ hown (hw _ (List.mem_of_getElem? (i := 7) rfl)) (hw _ (List.mem_of_getElem? (i := 8) rfl)) (hw _ (List.mem_of_getElem? (i := 9) rfl)) rfl (g := (mkF m 38 #[.val (.int i0), .val (.int i1), .val (.int i2), .val (.int i3), .val .null, .val (.ref r76), .val .null, .unset, .unset, .unset, .unset, .unset] [])) rfl (hb hby at_38) (by decide) (by decide)
      obtain ⟨s1, gs⟩ : ∃ z, z = T76.heap.size := ⟨_, rfl⟩
      rw [← gs] at A109 D109 st109
      have F1 : Fld Z h109 s1 own_K "values" "[Ljava/lang/Object;" .null := D109 (Or.inl (hw _ (List.mem_of_getElem? (i := 19) rfl))) (ty := .array (.object "java/lang/Object")) (by decide +kernel)
      have F2 : Fld Z h109 s1 own_K "size" "I" (.int (0 : Int32)) := D109 (Or.inl (hw _ (List.mem_of_getElem? (i := 26) rfl))) (ty := .int) (by decide)
      have x109 : Ext h0 h109 := own_ext_trans q76 E109
      have js : h0.size ≤ s1 := Nat.le_trans q76.1 (Nat.le_of_eq gs.symm)
      have ex110 := ei76.ext E109
      have g1 : n0 ≤ s1 := Nat.le_trans Z0 js
      refine own_go st109 ?_
      show own_G p e below _ T109 (mkF m 41 #[.val (.int i0), .val (.int i1), .val (.int i2), .val (.int i3), .val .null, .val (.ref r76), .val .null, .unset, .unset, .unset, .unset, .unset] [(.ref s1)])
      refine own_go (fun t k => XS.dup X109.here hx rfl (hb hby at_41) rfl rfl k) ?_
      show own_G p e below _ T109 (mkF m 42 #[.val (.int i0), .val (.int i1), .val (.int i2), .val (.int i3), .val .null, .val (.ref r76), .val .null, .unset, .unset, .unset, .unset, .unset] [(.ref s1), (.ref s1)])
      obtain ⟨T111, L111, v111, X111, ⟨rfl, Nq111, Kq111, Sq111⟩, st111⟩ := own_callN X109 hx hH (y := (⟨"com/example/halyard/halyard/engine/OperandStack", "<init>", "()V"⟩ : MethodName)) rfl hown (hw _ (List.mem_of_getElem? (i := 10) rfl)) (hw _ (List.mem_of_getElem? (i := 11) rfl)) (hw _ (List.mem_of_getElem? (i := 12) rfl)) (hw _ (List.mem_of_getElem? (i := 9) rfl)) (by decide) (c_init l Z a0 hw s1 h109 n0 (Nat.le_trans Z0 x109.1) A109 F1 F2 g1) e109 (argsL := []) (rest := [(.ref s1)]) (g := (mkF m 42 #[.val (.int i0), .val (.int i1), .val (.int i2), .val (.int i3), .val .null, .val (.ref r76), .val .null, .unset, .unset, .unset, .unset, .unset] [(.ref s1), (.ref s1)])) rfl (by rw [hml]; rfl) (ps := []) (r := none) (by decide +kernel) rfl rfl (W := 1) (by show 2 * 0 + _ ≤ _; exact Nat.le_of_eq rfl) (hb hby at_42) (by decide) (by decide) (by decide) (by decide)
      obtain ⟨ar, ga⟩ : ∃ z, z = h109.size := ⟨_, rfl⟩
      rw [← ga] at Sq111
      have ja : h0.size ≤ ar := Nat.le_trans x109.1 (Nat.le_of_eq ga.symm)
      have g2 : n0 ≤ ar := Nat.le_trans Z0 ja
      have x111 := own_ext_keep x109 Kq111 (allS js all0)
      have ex112 := ex110.keep Kq111
      have N111 := Fr.app N76 Nq111
      refine own_go st111 ?_
      show own_G p e below _ T111 (mkF m 45 #[.val (.int i0), .val (.int i1), .val (.int i2), .val (.int i3), .val .null, .val (.ref r76), .val .null, .unset, .unset, .unset, .unset, .unset] [(.ref s1)])
      refine own_go (fun t k => XS.astore X111.here hx rfl (hb hby at_45) rfl rfl (l' := #[.val (.int i0), .val (.int i1), .val (.int i2), .val (.int i3), .val .null, .val (.ref r76), .val .null, .val (.ref s1), .unset, .unset, .unset, .unset]) rfl k) ?_
      show own_G p e below _ T111 (mkF m 47 #[.val (.int i0), .val (.int i1), .val (.int i2), .val (.int i3), .val .null, .val (.ref r76), .val .null, .val (.ref s1), .unset, .unset, .unset, .unset] [])
      refine own_go (fun t k => XS.aload X111.here hx rfl (hb hby at_47) rfl rfl k) ?_
      show own_G p e below _ T111 (mkF m 49 #[.val (.int i0), .val (.int i1), .val (.int i2), .val (.int i3), .val .null, .val (.ref r76), .val .null, .val (.ref s1), .unset, .unset, .unset, .unset] [(.ref s1)])
      refine own_go (fun t k => XS.aload X111.here hx rfl (hb hby at_49) rfl rfl k) ?_
      show own_G p e below _ T111 (mkF m 51 #[.val (.int i0), .val (.int i1), .val (.int i2), .val (.int i3), .val .null, .val (.ref r76), .val .null, .val (.ref s1), .unset, .unset, .unset, .unset] [.null, (.ref s1)])
      obtain ⟨T113, L113, v113, X113, ⟨rfl, Nq113, Kq113, Sq113⟩, st113⟩ := own_callV X111 hx hH (y := (⟨"com/example/halyard/halyard/engine/OperandStack", "push", "(Ljava/lang/Object;)V"⟩ : MethodName)) (z := (⟨"com/example/halyard/halyard/engine/OperandStack", "push", "(Ljava/lang/Object;)V"⟩ : MethodName)) hown (hw _ (List.mem_of_getElem? (i := 20) rfl)) (hw _ (List.mem_of_getElem? (i := 21) rfl)) (hw _ (List.mem_of_getElem? (i := 23) rfl)) (hw _ (List.mem_of_getElem? (i := 23) rfl)) (hw _ (List.mem_of_getElem? (i := 22) rfl)) (hw _ (List.mem_of_getElem? (i := 24) rfl)) (hw _ (List.mem_of_getElem? (i := 9) rfl)) (notFace_of_selects (args := #[]) (mvT hZ (hw _ (List.mem_of_getElem? (i := 23) rfl)))) (by decide) (c_push_0N l Z a0 hw s1 ar .null .null .null .null T111.heap n0 (Nat.le_trans Z0 x111.1) Sq111 g1 g2) rfl Sq111.1 (argsL := [.null]) (rest := []) (g := (mkF m 51 #[.val (.int i0), .val (.int i1), .val (.int i2), .val (.int i3), .val .null, .val (.ref r76), .val .null, .val (.ref s1), .unset, .unset, .unset, .unset] [.null, (.ref s1)])) rfl (by rw [hml]; rfl) (ps := [(.object "java/lang/Object")]) (r := none) (by decide +kernel) rfl rfl (W := 0) (by show 2 * 0 + _ ≤ _; exact Nat.le_of_eq rfl) (hb hby at_51) (by decide) (by decide) (by decide) (by decide)
      have x113 := own_ext_keep x111 Kq113 (allS js (allS ja all0))
      have ex114 := ex112.keep Kq113
      have N113 := Fr.app N111 Nq113
      refine own_go st113 ?_
      show own_G p e below _ T113 (mkF m 54 #[.val (.int i0), .val (.int i1), .val (.int i2), .val (.int i3), .val .null, .val (.ref r76), .val .null, .val (.ref s1), .unset, .unset, .unset, .unset] [])
      refine own_go (fun t k => XS.aload X113.here hx rfl (hb hby at_54) rfl rfl k) ?_
      show own_G p e below _ T113 (mkF m 56 #[.val (.int i0), .val (.int i1), .val (.int i2), .val (.int i3), .val .null, .val (.ref r76), .val .null, .val (.ref s1), .unset, .unset, .unset, .unset] [(.ref s1)])
      refine own_go (fun t k => XS.aload X113.here hx rfl (hb hby at_56) rfl rfl k) ?_
      show own_G p e below _ T113 (mkF m 58 #[.val (.int i0), .val (.int i1), .val (.int i2), .val (.int i3), .val .null, .val (.ref r76), .val .null, .val (.ref s1), .unset, .unset, .unset, .unset] [(.ref r76), (.ref s1)])
      obtain ⟨T115, L115, v115, X115, ⟨rfl, Nq115, Kq115, Sq115⟩, st115⟩ := own_callV X113 hx hH (y := (⟨"com/example/halyard/halyard/engine/OperandStack", "push", "(Ljava/lang/Object;)V"⟩ : MethodName)) (z := (⟨"com/example/halyard/halyard/engine/OperandStack", "push", "(Ljava/lang/Object;)V"⟩ : MethodName)) hown (hw _ (List.mem_of_getElem? (i := 20) rfl)) (hw _ (List.mem_of_getElem? (i := 21) rfl)) (hw _ (List.mem_of_getElem? (i := 23) rfl)) (hw _ (List.mem_of_getElem? (i := 23) rfl)) (hw _ (List.mem_of_getElem? (i := 22) rfl)) (hw _ (List.mem_of_getElem? (i := 24) rfl)) (hw _ (List.mem_of_getElem? (i := 9) rfl)) (notFace_of_selects (args := #[]) (mvT hZ (hw _ (List.mem_of_getElem? (i := 23) rfl)))) (by decide) (c_push_1A l Z a0 hw s1 ar r76 .null .null .null .null T113.heap n0 (Nat.le_trans Z0 x113.1) Sq113 (own_ST_sto Sq113 (Ins.of_exa ex114 (hw _ (List.mem_of_getElem? (i := 27) rfl)))) g1 g2) rfl Sq113.1 (argsL := [(.ref r76)]) (rest := []) (g := (mkF m 58 #[.val (.int i0), .val (.int i1), .val (.int i2), .val (.int i3), .val .null, .val (.ref r76), .val .null, .val (.ref s1), .unset, .unset, .unset, .unset] [(.ref r76), (.ref s1)])) rfl (by rw [hml]; rfl) (ps := [(.object "java/lang/Object")]) (r := none) (by decide +kernel) rfl rfl (W := 0) (by show 2 * 0 + _ ≤ _; exact Nat.le_of_eq rfl) (hb hby at_58) (by decide) (by decide) (by decide) (by decide)
      have x115 := own_ext_keep x113 Kq115 (allS js (allS ja all0))
      have ex116 := ex114.keep Kq115
      have N115 := Fr.app N113 Nq115
      refine own_go st115 ?_
      show own_G p e below _ T115 (mkF m 61 #[.val (.int i0), .val (.int i1), .val (.int i2), .val (.int i3), .val .null, .val (.ref r76), .val .null, .val (.ref s1), .unset, .unset, .unset, .unset] [])
      refine own_go (fun t k => XS.aload X115.here hx rfl (hb hby at_61) rfl rfl k) ?_
      show own_G p e below _ T115 (mkF m 63 #[.val (.int i0), .val (.int i1), .val (.int i2), .val (.int i3), .val .null, .val (.ref r76), .val .null, .val (.ref s1), .unset, .unset, .unset, .unset] [(.ref s1)])
      refine own_go (fun t k => XS.aload X115.here hx rfl (hb hby at_63) rfl rfl k) ?_
      show own_G p e below _ T115 (mkF m 65 #[.val (.int i0), .val (.int i1), .val (.int i2), .val (.int i3), .val .null, .val (.ref r76), .val .null, .val (.ref s1), .unset, .unset, .unset, .unset] [.null, (.ref s1)])
      obtain ⟨T117, L117, v117, X117, ⟨rfl, Nq117, Kq117, Sq117⟩, st117⟩ := own_callV X115 hx hH (y := (⟨"com/example/halyard/halyard/engine/OperandStack", "push", "(Ljava/lang/Object;)V"⟩ : MethodName)) (z := (⟨"com/example/halyard/halyard/engine/OperandStack", "push", "(Ljava/lang/Object;)V"⟩ : MethodName)) hown (hw _ (List.mem_of_getElem? (i := 20) rfl)) (hw _ (List.mem_of_getElem? (i := 21) rfl)) (hw _ (List.mem_of_getElem? (i := 23) rfl)) (hw _ (List.mem_of_getElem? (i := 23) rfl)) (hw _ (List.mem_of_getElem? (i := 22) rfl)) (hw _ (List.mem_of_getElem? (i := 24) rfl)) (hw _ (List.mem_of_getElem? (i := 9) rfl)) (notFace_of_selects (args := #[]) (mvT hZ (hw _ (List.mem_of_getElem? (i := 23) rfl)))) (by decide) (c_push_2N l Z a0 hw s1 ar .null (.ref r76) .null .null T115.heap n0 (Nat.le_trans Z0 x115.1) Sq115 g1 g2) rfl Sq115.1 (argsL := [.null]) (rest := []) (g := (mkF m 65 #[.val (.int i0), .val (.int i1), .val (.int i2), .val (.int i3), .val .null, .val (.ref r76), .val .null, .val (.ref s1), .unset, .unset, .unset, .unset] [.null, (.ref s1)])) rfl (by rw [hml]; rfl) (ps := [(.object "java/lang/Object")]) (r := none) (by decide +kernel) rfl rfl (W := 0) (by show 2 * 0 + _ ≤ _; exact Nat.le_of_eq rfl) (hb hby at_65) (by decide) (by decide) (by decide) (by decide)
      have x117 := own_ext_keep x115 Kq117 (allS js (allS ja all0))
      have ex118 := ex116.keep Kq117
      have N117 := Fr.app N115 Nq117
      refine own_go st117 ?_
      show own_G p e below _ T117 (mkF m 68 #[.val (.int i0), .val (.int i1), .val (.int i2), .val (.int i3), .val .null, .val (.ref r76), .val .null, .val (.ref s1), .unset, .unset, .unset, .unset] [])
      refine own_go (fun t k => XS.aload X117.here hx rfl (hb hby at_68) rfl rfl k) ?_
      show own_G p e below _ T117 (mkF m 70 #[.val (.int i0), .val (.int i1), .val (.int i2), .val (.int i3), .val .null, .val (.ref r76), .val .null, .val (.ref s1), .unset, .unset, .unset, .unset] [(.ref s1)])
      obtain ⟨T119, L119, v119, X119, ⟨rfl, Nq119, Kq119, Sq119⟩, st119⟩ := own_callV X117 hx hH (y := (⟨"com/example/halyard/halyard/engine/OperandStack", "pop", "()Ljava/lang/Object;"⟩ : MethodName)) (z := (⟨"com/example/halyard/halyard/engine/OperandStack", "pop", "()Ljava/lang/Object;"⟩ : MethodName)) hown (hw _ (List.mem_of_getElem? (i := 28) rfl)) (hw _ (List.mem_of_getElem? (i := 29) rfl)) (hw _ (List.mem_of_getElem? (i := 31) rfl)) (hw _ (List.mem_of_getElem? (i := 31) rfl)) (hw _ (List.mem_of_getElem? (i := 30) rfl)) (hw _ (List.mem_of_getElem? (i := 32) rfl)) (hw _ (List.mem_of_getElem? (i := 9) rfl)) (notFace_of_selects (args := #[]) (mvT hZ (hw _ (List.mem_of_getElem? (i := 31) rfl)))) (by decide) (c_pop_3 l Z a0 hw s1 ar .null (.ref r76) .null .null T117.heap n0 (Nat.le_trans Z0 x117.1) Sq117 rfl g1 g2) rfl Sq117.1 (argsL := []) (rest := []) (g := (mkF m 70 #[.val (.int i0), .val (.int i1), .val (.int i2), .val (.int i3), .val .null, .val (.ref r76), .val .null, .val (.ref s1), .unset, .unset, .unset, .unset] [(.ref s1)])) rfl (by rw [hml]; rfl) (ps := []) (r := (some (.object "java/lang/Object"))) (by decide +kernel) rfl rfl (W := 0) (by show 2 * 0 + _ ≤ _; exact Nat.le_of_eq rfl) (hb hby at_70) (by decide) (by decide) (by decide) (by decide)
      have x119 := own_ext_keep x117 Kq119 (allS js (allS ja all0))
      have ex120 := ex118.keep Kq119
      have N119 := Fr.app N117 Nq119
      refine own_go st119 ?_
      show own_G p e below _ T119 (mkF m 73 #[.val (.int i0), .val (.int i1), .val (.int i2), .val (.int i3), .val .null, .val (.ref r76), .val .null, .val (.ref s1), .unset, .unset, .unset, .unset] [.null])
      refine own_go (fun t k => XS.astore X119.here hx rfl (hb hby at_73) rfl rfl (l' := #[.val (.int i0), .val (.int i1), .val (.int i2), .val (.int i3), .val .null, .val (.ref r76), .val .null, .val (.ref s1), .val .null, .unset, .unset, .unset]) rfl k) ?_
      show own_G p e below _ T119 (mkF m 75 #[.val (.int i0), .val (.int i1), .val (.int i2), .val (.int i3), .val .null, .val (.ref r76), .val .null, .val (.ref s1), .val .null, .unset, .unset, .unset] [])
      refine own_go (fun t k => XS.aload X119.here hx rfl (hb hby at_75) rfl rfl k) ?_
      show own_G p e below _ T119 (mkF m 77 #[.val (.int i0), .val (.int i1), .val (.int i2), .val (.int i3), .val .null, .val (.ref r76), .val .null, .val (.ref s1), .val .null, .unset, .unset, .unset] [(.ref s1)])
      refine own_go (fun t k => XS.iconst X119.here hx rfl (hb hby at_77) k) ?_
      show own_G p e below _ T119 (mkF m 78 #[.val (.int i0), .val (.int i1), .val (.int i2), .val (.int i3), .val .null, .val (.ref r76), .val .null, .val (.ref s1), .val .null, .unset, .unset, .unset] [(.int (1 : Int32)), (.ref s1)])
      refine own_go (fun t k => XS.iconst X119.here hx rfl (hb hby at_78) k) ?_
      show own_G p e below _ T119 (mkF m 79 #[.val (.int i0), .val (.int i1), .val (.int i2), .val (.int i3), .val .null, .val (.ref r76), .val .null, .val (.ref s1), .val .null, .unset, .unset, .unset] [(.int (1 : Int32)), (.int (1 : Int32)), (.ref s1)])
      obtain ⟨T121, L121, v121, X121, ⟨cK121, rfl, rfl, md121, q121⟩, st121⟩ := own_callV X119 hx hH (y := (⟨"com/example/halyard/halyard/engine/OperandStack", "operand", "(II)Lcom/example/halyard/halyard/engine/Code;"⟩ : MethodName)) (z := (⟨"com/example/halyard/halyard/engine/OperandStack", "operand", "(II)Lcom/example/halyard/halyard/engine/Code;"⟩ : MethodName)) hown (hw _ (List.mem_of_getElem? (i := 38) rfl)) (hw _ (List.mem_of_getElem? (i := 39) rfl)) (hw _ (List.mem_of_getElem? (i := 41) rfl)) (hw _ (List.mem_of_getElem? (i := 41) rfl)) (hw _ (List.mem_of_getElem? (i := 40) rfl)) (hw _ (List.mem_of_getElem? (i := 42) rfl)) (hw _ (List.mem_of_getElem? (i := 9) rfl)) (notFace_of_selects (args := #[]) (mvT hZ (hw _ (List.mem_of_getElem? (i := 41) rfl)))) (by decide) (c_operand l Z a0 hw s1 (1 : Int32) (1 : Int32) T119.heap) rfl Sq119.1 (argsL := [(.int (1 : Int32)), (.int (1 : Int32))]) (rest := []) (g := (mkF m 79 #[.val (.int i0), .val (.int i1), .val (.int i2), .val (.int i3), .val .null, .val (.ref r76), .val .null, .val (.ref s1), .val .null, .unset, .unset, .unset] [(.int (1 : Int32)), (.int (1 : Int32)), (.ref s1)])) rfl (by rw [hml]; rfl) (ps := [.int, .int]) (r := (some (.object "com/example/halyard/halyard/engine/Code"))) (by decide +kernel) rfl rfl (W := 0) (by show 2 * 0 + _ ≤ _; exact Nat.le_of_eq rfl) (hb hby at_79) (by decide) (by decide) (by decide) (by decide)
      have z121 : Ext T119.heap T121.heap := by rw [q121]; exact own_ext_push _ _
      have c121 : T121.heap[T119.heap.size]? = some { cls := cK121, slots := #[.ref s1, .int (1 : Int32), .int (1 : Int32)], vm := .none } := by rw [q121]; exact own_push_at _ _
      have x121 := own_ext_trans x119 z121
      have S121 := own_ST_ext z121 Sq119
      have ex122 := ex120.ext z121
      have N121 := Fr.app N119 (Fr.nil n0)
      refine own_go st121 ?_
      show own_G p e below _ T121 (mkF m 82 #[.val (.int i0), .val (.int i1), .val (.int i2), .val (.int i3), .val .null, .val (.ref r76), .val .null, .val (.ref s1), .val .null, .unset, .unset, .unset] [(.ref T119.heap.size)])
      refine own_go (fun t k => XS.aconstNull X121.here hx rfl (hb hby at_82) k) ?_
      show own_G p e below _ T121 (mkF m 83 #[.val (.int i0), .val (.int i1), .val (.int i2), .val (.int i3), .val .null, .val (.ref r76), .val .null, .val (.ref s1), .val .null, .unset, .unset, .unset] [.null, (.ref T119.heap.size)])
      obtain ⟨cB123, hB123, oB123⟩ := own_ST_cell S121
      obtain ⟨T123, X123, e123, st123⟩ := own_lam X121 hx hH (own := "com/example/halyard/halyard/engine/OperandStackPopPinLaw") (zz := ⟨"com/example/halyard/halyard/engine/OperandStack", "push", "(Ljava/lang/Object;)V"⟩) hown (hw _ (List.mem_of_getElem? (i := 47) rfl)) (hw _ (List.mem_of_getElem? (i := 48) rfl)) (hw _ (List.mem_of_getElem? (i := 49) rfl)) (hw _ (List.mem_of_getElem? (i := 50) rfl)) (hw _ (List.mem_of_getElem? (i := 51) rfl)) (hw _ (List.mem_of_getElem? (i := 52) rfl)) (hw _ (List.mem_of_getElem? (i := 9) rfl)) (hw _ (List.mem_of_getElem? (i := 23) rfl)) rfl (hw _ (List.mem_of_getElem? (i := 46) rfl)) md121 rfl c121 hB123 oB123 (w := .null) rfl (c_lam_2 l Z a0 hw s1 ar (2 : Int32) (1 : Int32) (1 : Int32) .null (.ref r76) .null .null T121.heap S121 rfl (by decide)) rfl rfl (g := (mkF m 83 #[.val (.int i0), .val (.int i1), .val (.int i2), .val (.int i3), .val .null, .val (.ref r76), .val .null, .val (.ref s1), .val .null, .unset, .unset, .unset] [.null, (.ref T119.heap.size)])) rfl (by rw [hml]; rfl) (rest := []) rfl (hb hby at_83) (by decide) (by show 2 * 0 + 0 + (2 + 11) + ((4 + 11) + 0) ≤ 3216; decide) (by decide) (by decide)
      refine own_go st123 ?_
      show own_G p e below _ T123 (mkF m 88 #[.val (.int i0), .val (.int i1), .val (.int i2), .val (.int i3), .val .null, .val (.ref r76), .val .null, .val (.ref s1), .val .null, .unset, .unset, .unset] [.null])
      refine own_go (fun t k => XS.astore X123.here hx rfl (hb hby at_88) rfl rfl (l' := #[.val (.int i0), .val (.int i1), .val (.int i2), .val (.int i3), .val .null, .val (.ref r76), .val .null, .val (.ref s1), .val .null, .val .null, .unset, .unset]) rfl k) ?_
      show own_G p e below _ T123 (mkF m 90 #[.val (.int i0), .val (.int i1), .val (.int i2), .val (.int i3), .val .null, .val (.ref r76), .val .null, .val (.ref s1), .val .null, .val .null, .unset, .unset] [])
      refine own_go (fun t k => XS.aload X123.here hx rfl (hb hby at_90) rfl rfl k) ?_
      show own_G p e below _ T123 (mkF m 92 #[.val (.int i0), .val (.int i1), .val (.int i2), .val (.int i3), .val .null, .val (.ref r76), .val .null, .val (.ref s1), .val .null, .val .null, .unset, .unset] [(.ref s1)])
      obtain ⟨T124, L124, v124, X124, ⟨rfl, Nq124, Kq124, Sq124⟩, st124⟩ := own_callV X123 hx hH (y := (⟨"com/example/halyard/halyard/engine/OperandStack", "pop", "()Ljava/lang/Object;"⟩ : MethodName)) (z := (⟨"com/example/halyard/halyard/engine/OperandStack", "pop", "()Ljava/lang/Object;"⟩ : MethodName)) hown (hw _ (List.mem_of_getElem? (i := 28) rfl)) (hw _ (List.mem_of_getElem? (i := 29) rfl)) (hw _ (List.mem_of_getElem? (i := 31) rfl)) (hw _ (List.mem_of_getElem? (i := 31) rfl)) (hw _ (List.mem_of_getElem? (i := 30) rfl)) (hw _ (List.mem_of_getElem? (i := 32) rfl)) (hw _ (List.mem_of_getElem? (i := 9) rfl)) (notFace_of_selects (args := #[]) (mvT hZ (hw _ (List.mem_of_getElem? (i := 31) rfl)))) (by decide) (c_pop_2 l Z a0 hw s1 ar .null (.ref r76) .null .null T121.heap n0 (Nat.le_trans Z0 x121.1) S121 rfl g1 g2) e123 S121.1 (argsL := []) (rest := []) (g := (mkF m 92 #[.val (.int i0), .val (.int i1), .val (.int i2), .val (.int i3), .val .null, .val (.ref r76), .val .null, .val (.ref s1), .val .null, .val .null, .unset, .unset] [(.ref s1)])) rfl (by rw [hml]; rfl) (ps := []) (r := (some (.object "java/lang/Object"))) (by decide +kernel) rfl rfl (W := 0) (by show 2 * 0 + _ ≤ _; exact Nat.le_of_eq rfl) (hb hby at_92) (by decide) (by decide) (by decide) (by decide)
      have x124 := own_ext_keep x121 Kq124 (allS js (allS ja all0))
      have ex125 := ex122.keep Kq124
      have N124 := Fr.app N121 Nq124
      refine own_go st124 ?_
      show own_G p e below _ T124 (mkF m 95 #[.val (.int i0), .val (.int i1), .val (.int i2), .val (.int i3), .val .null, .val (.ref r76), .val .null, .val (.ref s1), .val .null, .val .null, .unset, .unset] [(.ref r76)])
      refine own_go (fun t k => XS.astore X124.here hx rfl (hb hby at_95) rfl rfl (l' := #[.val (.int i0), .val (.int i1), .val (.int i2), .val (.int i3), .val .null, .val (.ref r76), .val .null, .val (.ref s1), .val .null, .val .null, .val (.ref r76), .unset]) rfl k) ?_
      show own_G p e below _ T124 (mkF m 97 #[.val (.int i0), .val (.int i1), .val (.int i2), .val (.int i3), .val .null, .val (.ref r76), .val .null, .val (.ref s1), .val .null, .val .null, .val (.ref r76), .unset] [])
      refine own_go (fun t k => XS.aload X124.here hx rfl (hb hby at_97) rfl rfl k) ?_
      show own_G p e below _ T124 (mkF m 99 #[.val (.int i0), .val (.int i1), .val (.int i2), .val (.int i3), .val .null, .val (.ref r76), .val .null, .val (.ref s1), .val .null, .val .null, .val (.ref r76), .unset] [(.ref s1)])
      refine own_go (fun t k => XS.iconst X124.here hx rfl (hb hby at_99) k) ?_
      show own_G p e below _ T124 (mkF m 100 #[.val (.int i0), .val (.int i1), .val (.int i2), .val (.int i3), .val .null, .val (.ref r76), .val .null, .val (.ref s1), .val .null, .val .null, .val (.ref r76), .unset] [(.int (0 : Int32)), (.ref s1)])
      refine own_go (fun t k => XS.iconst X124.here hx rfl (hb hby at_100) k) ?_
      show own_G p e below _ T124 (mkF m 101 #[.val (.int i0), .val (.int i1), .val (.int i2), .val (.int i3), .val .null, .val (.ref r76), .val .null, .val (.ref s1), .val .null, .val .null, .val (.ref r76), .unset] [(.int (1 : Int32)), (.int (0 : Int32)), (.ref s1)])
      obtain ⟨T126, L126, v126, X126, ⟨cK126, rfl, rfl, md126, q126⟩, st126⟩ := own_callV X124 hx hH (y := (⟨"com/example/halyard/halyard/engine/OperandStack", "operand", "(II)Lcom/example/halyard/halyard/engine/Code;"⟩ : MethodName)) (z := (⟨"com/example/halyard/halyard/engine/OperandStack", "operand", "(II)Lcom/example/halyard/halyard/engine/Code;"⟩ : MethodName)) hown (hw _ (List.mem_of_getElem? (i := 38) rfl)) (hw _ (List.mem_of_getElem? (i := 39) rfl)) (hw _ (List.mem_of_getElem? (i := 41) rfl)) (hw _ (List.mem_of_getElem? (i := 41) rfl)) (hw _ (List.mem_of_getElem? (i := 40) rfl)) (hw _ (List.mem_of_getElem? (i := 42) rfl)) (hw _ (List.mem_of_getElem? (i := 9) rfl)) (notFace_of_selects (args := #[]) (mvT hZ (hw _ (List.mem_of_getElem? (i := 41) rfl)))) (by decide) (c_operand l Z a0 hw s1 (0 : Int32) (1 : Int32) T124.heap) rfl Sq124.1 (argsL := [(.int (0 : Int32)), (.int (1 : Int32))]) (rest := []) (g := (mkF m 101 #[.val (.int i0), .val (.int i1), .val (.int i2), .val (.int i3), .val .null, .val (.ref r76), .val .null, .val (.ref s1), .val .null, .val .null, .val (.ref r76), .unset] [(.int (1 : Int32)), (.int (0 : Int32)), (.ref s1)])) rfl (by rw [hml]; rfl) (ps := [.int, .int]) (r := (some (.object "com/example/halyard/halyard/engine/Code"))) (by decide +kernel) rfl rfl (W := 0) (by show 2 * 0 + _ ≤ _; exact Nat.le_of_eq rfl) (hb hby at_101) (by decide) (by decide) (by decide) (by decide)
      have z126 : Ext T124.heap T126.heap := by rw [q126]; exact own_ext_push _ _
      have c126 : T126.heap[T124.heap.size]? = some { cls := cK126, slots := #[.ref s1, .int (1 : Int32), .int (0 : Int32)], vm := .none } := by rw [q126]; exact own_push_at _ _
      have x126 := own_ext_trans x124 z126
      have S126 := own_ST_ext z126 Sq124
      have ex127 := ex125.ext z126
      have N126 := Fr.app N124 (Fr.nil n0)
      refine own_go st126 ?_
      show own_G p e below _ T126 (mkF m 104 #[.val (.int i0), .val (.int i1), .val (.int i2), .val (.int i3), .val .null, .val (.ref r76), .val .null, .val (.ref s1), .val .null, .val .null, .val (.ref r76), .unset] [(.ref T124.heap.size)])
      refine own_go (fun t k => XS.aconstNull X126.here hx rfl (hb hby at_104) k) ?_
      show own_G p e below _ T126 (mkF m 105 #[.val (.int i0), .val (.int i1), .val (.int i2), .val (.int i3), .val .null, .val (.ref r76), .val .null, .val (.ref s1), .val .null, .val .null, .val (.ref r76), .unset] [.null, (.ref T124.heap.size)])
      obtain ⟨cB128, hB128, oB128⟩ := own_ST_cell S126
      obtain ⟨T128, X128, e128, st128⟩ := own_lam X126 hx hH (own := "com/example/halyard/halyard/engine/OperandStackPopPinLaw") (zz := ⟨"com/example/halyard/halyard/engine/OperandStack", "push", "(Ljava/lang/Object;)V"⟩) hown (hw _ (List.mem_of_getElem? (i := 47) rfl)) (hw _ (List.mem_of_getElem? (i := 48) rfl)) (hw _ (List.mem_of_getElem? (i := 49) rfl)) (hw _ (List.mem_of_getElem? (i := 50) rfl)) (hw _ (List.mem_of_getElem? (i := 51) rfl)) (hw _ (List.mem_of_getElem? (i := 52) rfl)) (hw _ (List.mem_of_getElem? (i := 9) rfl)) (hw _ (List.mem_of_getElem? (i := 23) rfl)) rfl (hw _ (List.mem_of_getElem? (i := 46) rfl)) md126 rfl c126 hB128 oB128 (w := .null) rfl (c_lam_0 l Z a0 hw s1 ar (1 : Int32) (1 : Int32) (0 : Int32) .null .null .null .null T126.heap S126 rfl (by decide)) rfl rfl (g := (mkF m 105 #[.val (.int i0), .val (.int i1), .val (.int i2), .val (.int i3), .val .null, .val (.ref r76), .val .null, .val (.ref s1), .val .null, .val .null, .val (.ref r76), .unset] [.null, (.ref T124.heap.size)])) rfl (by rw [hml]; rfl) (rest := []) rfl (hb hby at_105) (by decide) (by show 2 * 0 + 0 + (2 + 11) + ((4 + 11) + 0) ≤ 3216; decide) (by decide) (by decide)
      refine own_go st128 ?_
      show own_G p e below _ T128 (mkF m 110 #[.val (.int i0), .val (.int i1), .val (.int i2), .val (.int i3), .val .null, .val (.ref r76), .val .null, .val (.ref s1), .val .null, .val .null, .val (.ref r76), .unset] [.null])
      refine own_go (fun t k => XS.astore X128.here hx rfl (hb hby at_110) rfl rfl (l' := #[.val (.int i0), .val (.int i1), .val (.int i2), .val (.int i3), .val .null, .val (.ref r76), .val .null, .val (.ref s1), .val .null, .val .null, .val (.ref r76), .val .null]) rfl k) ?_
      show own_G p e below _ T128 (mkF m 112 #[.val (.int i0), .val (.int i1), .val (.int i2), .val (.int i3), .val .null, .val (.ref r76), .val .null, .val (.ref s1), .val .null, .val .null, .val (.ref r76), .val .null] [])
      refine own_go (fun t k => XS.aload X128.here hx rfl (hb hby at_112) rfl rfl k) ?_
      show own_G p e below _ T128 (mkF m 114 #[.val (.int i0), .val (.int i1), .val (.int i2), .val (.int i3), .val .null, .val (.ref r76), .val .null, .val (.ref s1), .val .null, .val .null, .val (.ref r76), .val .null] [.null])
      refine own_go (fun t k => XS.aload X128.here hx rfl (hb hby at_114) rfl rfl k) ?_
      show own_G p e below _ T128 (mkF m 116 #[.val (.int i0), .val (.int i1), .val (.int i2), .val (.int i3), .val .null, .val (.ref r76), .val .null, .val (.ref s1), .val .null, .val .null, .val (.ref r76), .val .null] [.null, .null])
      refine own_go (fun t k => Jvm.Free.XT.acmpNo X128.here hx rfl (hb hby at_116) rfl rfl rfl (by decide) k) ?_
      show own_G p e below _ T128 (mkF m 119 #[.val (.int i0), .val (.int i1), .val (.int i2), .val (.int i3), .val .null, .val (.ref r76), .val .null, .val (.ref s1), .val .null, .val .null, .val (.ref r76), .val .null] [])
      refine own_go (fun t k => XS.aload X128.here hx rfl (hb hby at_119) rfl rfl k) ?_
      show own_G p e below _ T128 (mkF m 121 #[.val (.int i0), .val (.int i1), .val (.int i2), .val (.int i3), .val .null, .val (.ref r76), .val .null, .val (.ref s1), .val .null, .val .null, .val (.ref r76), .val .null] [.null])
      refine own_go (fun t k => XT.ifnonnullNo X128.here hx rfl (hb hby at_121) rfl k) ?_
      show own_G p e below _ T128 (mkF m 124 #[.val (.int i0), .val (.int i1), .val (.int i2), .val (.int i3), .val .null, .val (.ref r76), .val .null, .val (.ref s1), .val .null, .val .null, .val (.ref r76), .val .null] [])
      refine own_go (fun t k => XS.aload X128.here hx rfl (hb hby at_124) rfl rfl k) ?_
      show own_G p e below _ T128 (mkF m 126 #[.val (.int i0), .val (.int i1), .val (.int i2), .val (.int i3), .val .null, .val (.ref r76), .val .null, .val (.ref s1), .val .null, .val .null, .val (.ref r76), .val .null] [(.ref r76)])
      refine own_go (fun t k => XS.aload X128.here hx rfl (hb hby at_126) rfl rfl k) ?_
      show own_G p e below _ T128 (mkF m 128 #[.val (.int i0), .val (.int i1), .val (.int i2), .val (.int i3), .val .null, .val (.ref r76), .val .null, .val (.ref s1), .val .null, .val .null, .val (.ref r76), .val .null] [(.ref r76), (.ref r76)])
      refine own_go (fun t k => Jvm.Free.XT.acmpNo X128.here hx rfl (hb hby at_128) rfl rfl rfl (own_acnF rfl) k) ?_
      show own_G p e below _ T128 (mkF m 131 #[.val (.int i0), .val (.int i1), .val (.int i2), .val (.int i3), .val .null, .val (.ref r76), .val .null, .val (.ref s1), .val .null, .val .null, .val (.ref r76), .val .null] [])
      refine own_go (fun t k => XS.aload X128.here hx rfl (hb hby at_131) rfl rfl k) ?_
      show own_G p e below _ T128 (mkF m 133 #[.val (.int i0), .val (.int i1), .val (.int i2), .val (.int i3), .val .null, .val (.ref r76), .val .null, .val (.ref s1), .val .null, .val .null, .val (.ref r76), .val .null] [.null])
      refine own_go (fun t k => XS.aload X128.here hx rfl (hb hby at_133) rfl rfl k) ?_
      show own_G p e below _ T128 (mkF m 135 #[.val (.int i0), .val (.int i1), .val (.int i2), .val (.int i3), .val .null, .val (.ref r76), .val .null, .val (.ref s1), .val .null, .val .null, .val (.ref r76), .val .null] [.null, .null])
      refine own_go (fun t k => Jvm.Free.XT.acmpNo X128.here hx rfl (hb hby at_135) rfl rfl rfl (by decide) k) ?_
      show own_G p e below _ T128 (mkF m 138 #[.val (.int i0), .val (.int i1), .val (.int i2), .val (.int i3), .val .null, .val (.ref r76), .val .null, .val (.ref s1), .val .null, .val .null, .val (.ref r76), .val .null] [])
      refine own_go (fun t k => XS.iconst X128.here hx rfl (hb hby at_138) k) ?_
      show own_G p e below _ T128 (mkF m 139 #[.val (.int i0), .val (.int i1), .val (.int i2), .val (.int i3), .val .null, .val (.ref r76), .val .null, .val (.ref s1), .val .null, .val .null, .val (.ref r76), .val .null] [(.int (1 : Int32))])
      refine own_go (fun t k => XS.goto X128.here hx rfl (pc0 := 139) (pc' := 143) rfl (hb hby at_139) (by decide) (by decide) k) ?_
      show own_G p e below _ T128 (mkF m 143 #[.val (.int i0), .val (.int i1), .val (.int i2), .val (.int i3), .val .null, .val (.ref r76), .val .null, .val (.ref s1), .val .null, .val .null, .val (.ref r76), .val .null] [(.int (1 : Int32))])
      exact own_retN X128 hx hlk hret (by simp) (hb hby at_143) (by decide) (by decide) ⟨rfl, N126⟩
set_option maxRecDepth 65536 in
set_option maxHeartbeats 40000000 in
theorem comes_1 {Post : Tables → Env → Array Value → State → Outcome → State → Prop} (hpost : ∀ tb e args s v u, (limb_1_1.after args s (.returned v) u = true ∧ limb_1_2.after args s (.returned v) u = true ∧ True) → FrameEnd s (.returned v) u (Jvm.fieldLocs frame_1_writes args s ++ Jvm.arrayLocs frame_1_arrays args s ++ Jvm.staticLocs frame_1_statics s) 24 256 → Post tb e args s (.returned v) u) :
    ArmFor flags0 classFile x code maxLocals ret World_1 tables_1 room_1 Calls_1 rest_1 Pre_1 Post := by
  intro l hfl _ _ p e ha hc hk s m args below hf hA hF happ hP
  obtain ⟨hcalls, hrest, hpre⟩ := hP
  obtain ⟨-, -, -, hnamed, -, -, -, hat⟩ := (Spec.applies_iff hf).mp happ
  obtain ⟨hg, hn⟩ := and_e (Cond.before_iff.mp (show (Jvm.Cond.and given_1 narrow_1).before args s = true from hpre))
  obtain ⟨h1, hg⟩ := and_e hg
  obtain ⟨w0, w1, w2, w3, rfl⟩ : ∃ w0 w1 w2 w3 : Value, args = #[w0, w1, w2, w3] := by
    have hs : args.size = 4 := by simpa [Cond.value, given_1] using h1
    obtain ⟨L⟩ := args
    match L, hs with
    | [w0, w1, w2, w3], _ => exact ⟨w0, w1, w2, w3, rfl⟩
  obtain ⟨hi0, hg⟩ := and_e hg
  obtain ⟨i0, ei0⟩ := is_v hi0
  obtain rfl : w0 = (.int i0) := Option.some.inj ei0
  obtain ⟨hi1, hg⟩ := and_e hg
  obtain ⟨i1, ei1⟩ := is_v hi1
  obtain rfl : w1 = (.int i1) := Option.some.inj ei1
  obtain ⟨hi2, hg⟩ := and_e hg
  obtain ⟨i2, ei2⟩ := is_v hi2
  obtain rfl : w2 = (.int i2) := Option.some.inj ei2
  obtain ⟨i3, ei3⟩ := is_v hg
  obtain rfl : w3 = (.int i3) := Option.some.inj ei3
  have hw := fun d (hd : d ∈ tables_1) => atoms_spec (ws := Jvm.Cond.code x code maxLocals ret :: tables_1) hat d (List.mem_cons_of_mem _ hd)
  obtain ⟨hsets, hown0⟩ := atoms_of _ (rest_1_c_eq ▸ (show rest_1_c.before _ s = true from hrest))
  have q_h := Jvm.Cond.before_iff.mp (hsets _ (List.mem_of_getElem? (i := 3) rfl))
  obtain ⟨x_h, y_h, e_h1, e_h2, k_h1, k_h2⟩ := cmp_v (Or.inl q_h)
  obtain rfl : y_h = .int 127 := (Option.some.inj e_h2).symm
  obtain ⟨z_h, rfl⟩ := k_h2
  have z_h1 := gotT (Jvm.Cond.eq_ints e_h1 e_h2) q_h
  rw [z_h1] at e_h1
  have S_h := Sta.start e_h1 (Or.inl (hsets _ (List.mem_of_getElem? (i := 1) rfl)))
  have q_a := Jvm.Cond.before_iff.mp (hsets _ (List.mem_of_getElem? (i := 4) rfl))
  obtain ⟨ac, v_c⟩ := arr_v q_a
  have S_c := Sta.start v_c (Or.inr ⟨(hw _ (List.mem_of_getElem? (i := 5) rfl)), (hsets _ (List.mem_of_getElem? (i := 2) rfl))⟩)
  obtain ⟨clc, A_c⟩ := Arr.start v_c q_a
  have Z_c : clc.slots.size = 256 := own_len v_c A_c (Jvm.Cond.before_iff.mp (hsets _ (List.mem_of_getElem? (i := 6) rfl)))
  have H_c := own_cache (ac := ac) (cl := clc) v_c A_c Z_c (Jvm.Cond.before_iff.mp (hsets _ (List.mem_of_getElem? (i := 7) rfl)))
  replace H_c : ∀ i, i < 256 → ∃ r, clc.slots[i]? = some (.ref r) ∧ Exa s s.heap r "java/lang/Integer" := fun i hi => by obtain ⟨r, q1, q2, -⟩ := H_c i hi; exact ⟨r, q1, q2⟩
  have B : own_B s s.heap ac clc := ⟨S_h, S_c, A_c, Z_c, H_c⟩
  obtain ⟨n, o, h1, h2, h3, _, L, rfl, ⟨rfl, N⟩, hq⟩ := rm0 l s _ hw i0 i1 i2 i3 ac clc s.heap s.heap.size (Nat.le_refl _) B tables_1 p e ha hc hk s m _ below hf ((Spec.applies_iff_loose hf).mp happ).1 ⟨rfl, State.WarmedH.refl s, rfl⟩ trivial
  refine ⟨n, _, h1, h2, h3, hpost _ _ _ _ _ _ ⟨Jvm.Cond.after_iff.mpr rfl, Jvm.Cond.after_iff.mpr (eq_i res_at (Term.int_eval (1)) rfl), trivial⟩ ⟨hq.1, hq.2.1, (hq.2.2.sift fun y hy => Or.inr (N y hy)).mono (by decide) (by decide)⟩⟩
theorem main_1_1 : Claimed_1_1 := comes_1 fun _ _ _ _ _ _ h hF => ⟨h.1, wide hF⟩
theorem main_1_2 : Claimed_1_2 := comes_1 fun _ _ _ _ _ _ h hF => ⟨h.2.1, wide hF⟩
end Jvm.Pilot.@@N@@
namespace Jvm.Pilot.@@N@@
open Jvm Jvm.ClassFile Sem Op Lib Jvm.Free Jvm.Stand Jvm.Pilot.@@N@@.Jvm.D
/-! MADE BY PROGRAM (witnessworld.py) out of the Statement's table words and the real class files: 19 classes; the members and pool entries that the words name. The judged class is class 1, her method 1. -/
namespace start1
open Jvm.ClassFile
def u (s : String) : CpInfo := .utf8 (stringToUtf16 s)
/-- a pool by its gaps: so many unusable entries, then the entry; so many at the end -/
def gap : Nat → List CpInfo → List CpInfo
  | 0, r => r
  | n + 1, r => .unusable :: gap n r
def poolList (es : List (Nat × CpInfo)) (last : Nat) : List CpInfo := es.foldr (fun e r => gap e.1 (e.2 :: r)) (gap last [])
def pool (es : List (Nat × CpInfo)) (last : Nat) : Array CpInfo := ⟨poolList es last⟩
def fileOf (pool : Array CpInfo) (this : Nat) (attrs : Array Attribute := #[]) (ms : Array MethodInfo := #[]) (fl : Nat := 33) (sup : Nat := 0) (ifs : Array Nat := #[]) (fds : Array FieldInfo := #[]) : ClassFile where
  minorVersion := 0
  majorVersion := 65
  constantPool := pool
  accessFlags := fl
  thisClass := this
  superClass := sup
  interfaces := ifs
  fields := fds
  methods := ms
  attributes := attrs
def plain (name : String) (sup : Option ClassId) : Class where
  name := name
  kind := .ordinary
  loader := none
  accessFlags := 33
  super := sup
  interfaces := #[]
  cf := none
  fields := #[]
  methods := #[]
  instanceTypes := #[]
  staticTypes := #[]
  resolved := #[]
  callSites := []
  init := .initialized
  statics := none
  mirror := none

def pool0 : Array CpInfo := pool [(5, u "<init>"), (0, u "()V"), (1, .class_ 10), (1, u "java/lang/Object")] 113

def k0c0 : Code := { maxStack := 0, maxLocals := 1, code := object_method_1_code, exceptionTable := #[], attributes := #[] }
def k0m0 : Method := { name := "<init>", desc := "()V", sig := { parameters := [], returnType := none }, accessFlags := 1, code := some k0c0 }
/-- java/lang/Object -/
def k0 : Class := { plain "java/lang/Object" none with
  accessFlags := 33
  interfaces := #[]
  cf := some (fileOf pool0 8 #[] #[{ accessFlags := 1, nameIndex := 5, descriptorIndex := 6, attributes := #[] }] 33 0 #[] #[])
  fields := #[]
  methods := #[k0m0]
  instanceTypes := #[]
  staticTypes := #[]
  resolved := Array.replicate 124 none
  statics := none }

def pool1 : Array CpInfo := pool [(2, .class_ 4), (0, .nameAndType 5 6), (0, u "java/lang/Object"), (0, u "<init>"), (0, u "()V"), (0, .methodref 8 9), (0, .class_ 10), (0, .nameAndType 11 12), (0, u "java/lang/Integer"), (0, u "valueOf"), (0, u "(I)Ljava/lang/Integer;"), (0, .class_ 14), (0, u "com/example/halyard/halyard/engine/OperandStack"), (0, .methodref 13 3), (0, .methodref 13 17), (0, .nameAndType 18 19), (0, u "push"), (0, u "(Ljava/lang/Object;)V"), (0, .methodref 13 21), (0, .nameAndType 22 23), (0, u "pop"), (0, u "()Ljava/lang/Object;"), (0, .methodref 13 25), (0, .nameAndType 26 27), (0, u "operand"), (0, u "(II)Lcom/example/halyard/halyard/engine/Code;"), (0, .interfaceMethodref 29 30), (0, .class_ 31), (0, .nameAndType 32 33), (0, u "com/example/halyard/halyard/engine/Code"), (0, u "run"), (0, u "(Lcom/example/halyard/halyard/engine/Frame;)Ljava/lang/Object;"), (0, .class_ 35), (0, u "com/example/halyard/halyard/engine/OperandStackPopPinLaw"), (2, u "law"), (0, u "(IIII)Z")] 6

def k1m0 : Method := { name := "<init>", desc := "()V", sig := { parameters := [], returnType := none }, accessFlags := 1, code := none }
def k1c1 : Code := { maxStack := 3, maxLocals := 12, code := code, exceptionTable := #[], attributes := #[] }
def k1m1 : Method := { name := "law", desc := "(IIII)Z", sig := { parameters := [.int, .int, .int, .int], returnType := some .boolean }, accessFlags := 9, code := some k1c1 }
/-- com/example/halyard/halyard/engine/OperandStackPopPinLaw -/
def k1 : Class := { plain "com/example/halyard/halyard/engine/OperandStackPopPinLaw" (some 0) with
  accessFlags := 49
  interfaces := #[]
  cf := some (fileOf pool1 34 #[] #[{ accessFlags := 1, nameIndex := 5, descriptorIndex := 6, attributes := #[] }, { accessFlags := 9, nameIndex := 38, descriptorIndex := 39, attributes := #[] }] 49 2 #[] #[])
  fields := #[]
  methods := #[k1m0, k1m1]
  instanceTypes := #[]
  staticTypes := #[]
  resolved := Array.replicate 46 none
  statics := none }

def pool2 : Array CpInfo := pool [(1, .class_ 2), (0, u "java/io/Serializable"), (0, .class_ 4), (0, u "java/lang/Object")] 2

/-- java/io/Serializable -/
def k2 : Class := { plain "java/io/Serializable" (some 0) with
  accessFlags := 1537
  interfaces := #[]
  cf := some (fileOf pool2 1 #[] #[] 1537 3 #[] #[])
  fields := #[]
  methods := #[]
  instanceTypes := #[]
  staticTypes := #[]
  resolved := Array.replicate 7 none
  statics := none }

def pool3 : Array CpInfo := pool [(1, .methodref 2 3), (0, .class_ 4), (0, .nameAndType 5 6), (0, u "java/lang/Object"), (0, u "<init>"), (0, u "()V"), (1, .class_ 10), (1, u "java/lang/Number"), (2, .class_ 14), (0, u "java/io/Serializable"), (0, u "serialVersionUID"), (0, u "J")] 20

def k3c0 : Code := { maxStack := 1, maxLocals := 1, code := jdk_18_method_1_code, exceptionTable := #[], attributes := #[] }
def k3m0 : Method := { name := "<init>", desc := "()V", sig := { parameters := [], returnType := none }, accessFlags := 1, code := some k3c0 }
/-- java/lang/Number -/
def k3 : Class := { plain "java/lang/Number" (some 0) with
  accessFlags := 1057
  interfaces := #[2]
  cf := some (fileOf pool3 8 #[] #[{ accessFlags := 1, nameIndex := 5, descriptorIndex := 6, attributes := #[] }] 1057 2 #[13] #[{ accessFlags := 26, nameIndex := 15, descriptorIndex := 16, attributes := #[] }])
  fields := #[{ name := "serialVersionUID", type := .long, accessFlags := 26, slot := 0, constantValue := 0 }]
  methods := #[k3m0]
  instanceTypes := #[]
  staticTypes := #[.long]
  resolved := Array.replicate 37 none
  statics := none }

def pool4 : Array CpInfo := pool [(1, .class_ 2), (0, u "java/lang/Comparable"), (0, .class_ 4), (0, u "java/lang/Object")] 7

/-- java/lang/Comparable -/
def k4 : Class := { plain "java/lang/Comparable" (some 0) with
  accessFlags := 1537
  interfaces := #[]
  cf := some (fileOf pool4 1 #[] #[] 1537 3 #[] #[])
  fields := #[]
  methods := #[]
  instanceTypes := #[]
  staticTypes := #[]
  resolved := Array.replicate 12 none
  statics := none }

def pool5 : Array CpInfo := pool [(1, .class_ 2), (0, u "java/lang/constant/Constable"), (0, .class_ 4), (0, u "java/lang/Object")] 6

/-- java/lang/constant/Constable -/
def k5 : Class := { plain "java/lang/constant/Constable" (some 0) with
  accessFlags := 1537
  interfaces := #[]
  cf := some (fileOf pool5 1 #[] #[] 1537 3 #[] #[])
  fields := #[]
  methods := #[]
  instanceTypes := #[]
  staticTypes := #[]
  resolved := Array.replicate 11 none
  statics := none }

def pool6 : Array CpInfo := pool [(1, .class_ 2), (0, u "java/lang/constant/ConstantDesc"), (0, .class_ 4), (0, u "java/lang/Object")] 32

/-- java/lang/constant/ConstantDesc -/
def k6 : Class := { plain "java/lang/constant/ConstantDesc" (some 0) with
  accessFlags := 1537
  interfaces := #[]
  cf := some (fileOf pool6 1 #[] #[] 1537 3 #[] #[])
  fields := #[]
  methods := #[]
  instanceTypes := #[]
  staticTypes := #[]
  resolved := Array.replicate 37 none
  statics := none }

def pool7 : Array CpInfo := pool [(1, .class_ 2), (0, u "java/lang/Integer"), (16, u "digits"), (0, u "[C"), (46, u "<init>"), (17, u "DigitOnes"), (0, u "[B"), (2, u "DigitTens"), (10, .nameAndType 67 101), (0, u "()V"), (85, u "valueOf"), (0, u "(I)Ljava/lang/Integer;"), (0, .class_ 190), (0, u "java/lang/Integer$IntegerCache"), (0, .fieldref 189 192), (0, .nameAndType 193 194), (0, u "high"), (0, u "I"), (0, .fieldref 189 196), (0, .nameAndType 197 198), (0, u "cache"), (0, u "[Ljava/lang/Integer;"), (0, .methodref 1 200), (0, .nameAndType 67 201), (0, u "(I)V"), (0, .methodref 203 100), (0, .class_ 204), (0, u "java/lang/Number"), (0, .fieldref 1 206), (0, .nameAndType 207 194), (0, u "value"), (94, u "TYPE"), (0, u "Ljava/lang/Class;"), (0, .class_ 305), (0, u "java/lang/Comparable"), (0, .class_ 307), (0, u "java/lang/constant/Constable"), (0, .class_ 309), (0, u "java/lang/constant/ConstantDesc"), (0, u "MIN_VALUE"), (1, u "MAX_VALUE"), (3, u "SIZE"), (1, u "BYTES"), (1, u "serialVersionUID"), (0, u "J")] 131

def k7c0 : Code := { maxStack := 3, maxLocals := 1, code := jdk_33_method_22_code, exceptionTable := #[], attributes := #[] }
def k7m0 : Method := { name := "valueOf", desc := "(I)Ljava/lang/Integer;", sig := { parameters := [.int], returnType := some (.object "java/lang/Integer") }, accessFlags := 9, code := some k7c0 }
def k7c1 : Code := { maxStack := 2, maxLocals := 2, code := jdk_33_method_23_code, exceptionTable := #[], attributes := #[] }
def k7m1 : Method := { name := "<init>", desc := "(I)V", sig := { parameters := [.int], returnType := none }, accessFlags := 1, code := some k7c1 }
/-- java/lang/Integer -/
def k7 : Class := { plain "java/lang/Integer" (some 3) with
  accessFlags := 49
  interfaces := #[4, 5, 6]
  cf := some (fileOf pool7 1 #[.nestMembers #[189]] #[{ accessFlags := 9, nameIndex := 187, descriptorIndex := 188, attributes := #[] }, { accessFlags := 1, nameIndex := 67, descriptorIndex := 201, attributes := #[] }] 49 203 #[304, 306, 308] #[{ accessFlags := 25, nameIndex := 310, descriptorIndex := 194, attributes := #[] }, { accessFlags := 25, nameIndex := 312, descriptorIndex := 194, attributes := #[] }, { accessFlags := 25, nameIndex := 302, descriptorIndex := 303, attributes := #[] }, { accessFlags := 24, nameIndex := 19, descriptorIndex := 20, attributes := #[] }, { accessFlags := 24, nameIndex := 89, descriptorIndex := 86, attributes := #[] }, { accessFlags := 24, nameIndex := 85, descriptorIndex := 86, attributes := #[] }, { accessFlags := 18, nameIndex := 207, descriptorIndex := 194, attributes := #[] }, { accessFlags := 25, nameIndex := 316, descriptorIndex := 194, attributes := #[] }, { accessFlags := 25, nameIndex := 318, descriptorIndex := 194, attributes := #[] }, { accessFlags := 26, nameIndex := 320, descriptorIndex := 321, attributes := #[] }])
  fields := #[{ name := "MIN_VALUE", type := .int, accessFlags := 25, slot := 0, constantValue := 0 }, { name := "MAX_VALUE", type := .int, accessFlags := 25, slot := 1, constantValue := 0 }, { name := "TYPE", type := (.object "java/lang/Class"), accessFlags := 25, slot := 2, constantValue := 0 }, { name := "digits", type := (.array .char), accessFlags := 24, slot := 3, constantValue := 0 }, { name := "DigitTens", type := (.array .byte), accessFlags := 24, slot := 4, constantValue := 0 }, { name := "DigitOnes", type := (.array .byte), accessFlags := 24, slot := 5, constantValue := 0 }, { name := "value", type := .int, accessFlags := 18, slot := 0, constantValue := 0 }, { name := "SIZE", type := .int, accessFlags := 25, slot := 6, constantValue := 0 }, { name := "BYTES", type := .int, accessFlags := 25, slot := 7, constantValue := 0 }, { name := "serialVersionUID", type := .long, accessFlags := 26, slot := 8, constantValue := 0 }]
  methods := #[k7m0, k7m1]
  instanceTypes := #[.int]
  staticTypes := #[.int, .int, (.object "java/lang/Class"), (.array .char), (.array .byte), (.array .byte), .int, .int, .long]
  resolved := Array.replicate 453 none
  statics := none }

def pool8 : Array CpInfo := pool [(2, .class_ 4), (1, u "java/lang/Object"), (0, u "<init>"), (0, u "()V"), (0, .class_ 8), (0, u "java/lang/Integer"), (7, .class_ 18), (1, u "java/lang/Integer$IntegerCache"), (0, u "$assertionsDisabled"), (0, u "Z"), (26, u "high"), (0, u "I"), (8, u "archivedCache"), (0, u "[Ljava/lang/Integer;"), (12, u "cache"), (0, u "low")] 27

def k8m0 : Method := { name := "<init>", desc := "()V", sig := { parameters := [], returnType := none }, accessFlags := 2, code := none }
/-- java/lang/Integer$IntegerCache -/
def k8 : Class := { plain "java/lang/Integer$IntegerCache" (some 0) with
  accessFlags := 48
  interfaces := #[]
  cf := some (fileOf pool8 16 #[.nestHost 7] #[{ accessFlags := 2, nameIndex := 5, descriptorIndex := 6, attributes := #[] }] 48 2 #[] #[{ accessFlags := 24, nameIndex := 72, descriptorIndex := 48, attributes := #[] }, { accessFlags := 24, nameIndex := 47, descriptorIndex := 48, attributes := #[] }, { accessFlags := 24, nameIndex := 71, descriptorIndex := 58, attributes := #[] }, { accessFlags := 8, nameIndex := 57, descriptorIndex := 58, attributes := #[] }, { accessFlags := 4120, nameIndex := 19, descriptorIndex := 20, attributes := #[] }])
  fields := #[{ name := "low", type := .int, accessFlags := 24, slot := 0, constantValue := 0 }, { name := "high", type := .int, accessFlags := 24, slot := 1, constantValue := 0 }, { name := "cache", type := (.array (.object "java/lang/Integer")), accessFlags := 24, slot := 2, constantValue := 0 }, { name := "archivedCache", type := (.array (.object "java/lang/Integer")), accessFlags := 8, slot := 3, constantValue := 0 }, { name := "$assertionsDisabled", type := .boolean, accessFlags := 4120, slot := 4, constantValue := 0 }]
  methods := #[k8m0]
  instanceTypes := #[]
  staticTypes := #[.int, .int, (.array (.object "java/lang/Integer")), (.array (.object "java/lang/Integer")), .boolean]
  resolved := Array.replicate 100 none
  statics := some 0 }

def pool9 : Array CpInfo := pool [(1, .methodref 2 3), (0, .class_ 4), (0, .nameAndType 5 6), (0, u "java/lang/Object"), (0, u "<init>"), (0, u "()V"), (0, .fieldref 8 9), (0, .class_ 10), (0, .nameAndType 11 12), (0, u "com/example/halyard/halyard/engine/OperandStack"), (0, u "values"), (0, u "[Ljava/lang/Object;"), (0, .fieldref 8 14), (0, .nameAndType 15 16), (0, u "size"), (0, u "I"), (6, .methodref 8 24), (0, .nameAndType 25 26), (0, u "drop"), (0, u "(I)V"), (0, .invokeDynamic 0 28), (0, .nameAndType 29 30), (0, u "run"), (0, u "(Lcom/example/halyard/halyard/engine/OperandStack;II)Lcom/example/halyard/halyard/engine/Code;"), (2, u "push"), (0, u "(Ljava/lang/Object;)V"), (1, u "pop"), (0, u "()Ljava/lang/Object;"), (0, u "operand"), (0, u "(II)Lcom/example/halyard/halyard/engine/Code;"), (0, u "lambda$operand$0"), (0, u "(IILcom/example/halyard/halyard/engine/Frame;)Ljava/lang/Object;"), (8, .methodType 51), (0, u "(Lcom/example/halyard/halyard/engine/Frame;)Ljava/lang/Object;"), (0, .methodHandle 5 53), (0, .methodref 8 54), (0, .nameAndType 40 41), (0, .methodHandle 6 56), (0, .methodref 57 58), (0, .class_ 59), (0, .nameAndType 60 61), (0, u "java/lang/invoke/LambdaMetafactory"), (0, u "metafactory"), (0, u "(Ljava/lang/invoke/MethodHandles$Lookup;Ljava/lang/String;Ljava/lang/invoke/MethodType;Ljava/lang/invoke/MethodType;Ljava/lang/invoke/MethodHandle;Ljava/lang/invoke/MethodType;)Ljava/lang/invoke/CallSite;")] 6

def k9c0 : Code := { maxStack := 2, maxLocals := 1, code := prog_114_method_1_code, exceptionTable := #[], attributes := #[] }
def k9m0 : Method := { name := "<init>", desc := "()V", sig := { parameters := [], returnType := none }, accessFlags := 0, code := some k9c0 }
def k9c1 : Code := { maxStack := 5, maxLocals := 2, code := prog_114_method_2_code, exceptionTable := #[], attributes := #[] }
def k9m1 : Method := { name := "push", desc := "(Ljava/lang/Object;)V", sig := { parameters := [(.object "java/lang/Object")], returnType := none }, accessFlags := 0, code := some k9c1 }
def k9c2 : Code := { maxStack := 3, maxLocals := 2, code := prog_114_method_3_code, exceptionTable := #[], attributes := #[] }
def k9m2 : Method := { name := "pop", desc := "()Ljava/lang/Object;", sig := { parameters := [], returnType := some (.object "java/lang/Object") }, accessFlags := 0, code := some k9c2 }
def k9c3 : Code := { maxStack := 4, maxLocals := 3, code := prog_114_method_4_code, exceptionTable := #[], attributes := #[] }
def k9m3 : Method := { name := "drop", desc := "(I)V", sig := { parameters := [.int], returnType := none }, accessFlags := 0, code := some k9c3 }
def k9c4 : Code := { maxStack := 3, maxLocals := 3, code := prog_114_method_5_code, exceptionTable := #[], attributes := #[] }
def k9m4 : Method := { name := "operand", desc := "(II)Lcom/example/halyard/halyard/engine/Code;", sig := { parameters := [.int, .int], returnType := some (.object "com/example/halyard/halyard/engine/Code") }, accessFlags := 0, code := some k9c4 }
def k9c5 : Code := { maxStack := 3, maxLocals := 4, code := prog_114_method_6_code, exceptionTable := #[], attributes := #[] }
def k9m5 : Method := { name := "lambda$operand$0", desc := "(IILcom/example/halyard/halyard/engine/Frame;)Ljava/lang/Object;", sig := { parameters := [.int, .int, (.object "com/example/halyard/halyard/engine/Frame")], returnType := some (.object "java/lang/Object") }, accessFlags := 4098, code := some k9c5 }
/-- com/example/halyard/halyard/engine/OperandStack -/
def k9 : Class := { plain "com/example/halyard/halyard/engine/OperandStack" (some 0) with
  accessFlags := 48
  interfaces := #[]
  cf := some (fileOf pool9 8 #[.bootstrapMethods #[⟨55, #[50, 52, 50]⟩]] #[{ accessFlags := 0, nameIndex := 5, descriptorIndex := 6, attributes := #[] }, { accessFlags := 0, nameIndex := 33, descriptorIndex := 34, attributes := #[] }, { accessFlags := 0, nameIndex := 36, descriptorIndex := 37, attributes := #[] }, { accessFlags := 0, nameIndex := 25, descriptorIndex := 26, attributes := #[] }, { accessFlags := 0, nameIndex := 38, descriptorIndex := 39, attributes := #[] }, { accessFlags := 4098, nameIndex := 40, descriptorIndex := 41, attributes := #[] }] 48 2 #[] #[{ accessFlags := 2, nameIndex := 11, descriptorIndex := 12, attributes := #[] }, { accessFlags := 2, nameIndex := 15, descriptorIndex := 16, attributes := #[] }])
  fields := #[{ name := "values", type := (.array (.object "java/lang/Object")), accessFlags := 2, slot := 0, constantValue := 0 }, { name := "size", type := .int, accessFlags := 2, slot := 1, constantValue := 0 }]
  methods := #[k9m0, k9m1, k9m2, k9m3, k9m4, k9m5]
  instanceTypes := #[(.array (.object "java/lang/Object")), .int]
  staticTypes := #[]
  resolved := Array.replicate 68 none
  callSites := [(4, 3, .makes 18)]
  statics := none }

def pool10 : Array CpInfo := pool [(1, .class_ 2), (0, u "com/example/halyard/halyard/engine/Code"), (0, .class_ 4), (0, u "java/lang/Object"), (0, u "run"), (0, u "(Lcom/example/halyard/halyard/engine/Frame;)Ljava/lang/Object;")] 9

def k10m0 : Method := { name := "run", desc := "(Lcom/example/halyard/halyard/engine/Frame;)Ljava/lang/Object;", sig := { parameters := [(.object "com/example/halyard/halyard/engine/Frame")], returnType := some (.object "java/lang/Object") }, accessFlags := 1025, code := none }
/-- com/example/halyard/halyard/engine/Code -/
def k10 : Class := { plain "com/example/halyard/halyard/engine/Code" (some 0) with
  accessFlags := 1536
  interfaces := #[]
  cf := some (fileOf pool10 1 #[] #[{ accessFlags := 1025, nameIndex := 5, descriptorIndex := 6, attributes := #[] }] 1536 3 #[] #[])
  fields := #[]
  methods := #[k10m0]
  instanceTypes := #[]
  staticTypes := #[]
  resolved := Array.replicate 16 none
  statics := none }

def pool11 : Array CpInfo := pool [(1, u "java/lang/Cloneable"), (0, .class_ 1), (0, u "java/lang/Object"), (0, .class_ 3)] 3

/-- java/lang/Cloneable -/
def k11 : Class := { plain "java/lang/Cloneable" (some 0) with
  accessFlags := 1537
  interfaces := #[]
  cf := some (fileOf pool11 2 #[] #[] 1537 4 #[] #[])
  fields := #[]
  methods := #[]
  instanceTypes := #[]
  staticTypes := #[]
  resolved := Array.replicate 8 none
  statics := none }

/-- the primitive byte -/
def k12 : Class := { plain "byte" none with kind := .primitive 'B', accessFlags := 0x411 }
/-- [B -/
def k13 : Class := { plain "[B" (some 0) with kind := .array 12 .byte, interfaces := #[11, 2], accessFlags := 1041 }

/-- the primitive int -/
def k14 : Class := { plain "int" none with kind := .primitive 'I', accessFlags := 0x411 }
/-- [I -/
def k15 : Class := { plain "[I" (some 0) with kind := .array 14 .int, interfaces := #[11, 2], accessFlags := 1041 }

/-- [Ljava/lang/Integer; -/
def k16 : Class := { plain "[Ljava/lang/Integer;" (some 0) with kind := .array 7 (.object "java/lang/Integer"), interfaces := #[11, 2], accessFlags := 1041 }

/-- [Ljava/lang/Object; -/
def k17 : Class := { plain "[Ljava/lang/Object;" (some 0) with kind := .array 0 (.object "java/lang/Object"), interfaces := #[11, 2], accessFlags := 1041 }

def classes0 : Array Class := #[k0, k1, k2, k3, k4, k5, k6, k7, k8, k9, k10, k11, k12, k13, k14, k15, k16, k17]
/-- the class that the rule has made for the site at 3 of com/example/halyard/halyard/engine/OperandStack.operand -/
def k18 : Class := Jvm.LamKit.madeRec { classes := classes0 } "com/example/halyard/halyard/engine/OperandStack" (Jvm.Lambda.Shape.mk "com/example/halyard/halyard/engine/Code" "run" (Jvm.ClassFile.MethodDescriptor.mk ([(Jvm.ClassFile.FieldType.object "com/example/halyard/halyard/engine/Frame")] : List Jvm.ClassFile.FieldType) (Option.some (Jvm.ClassFile.FieldType.object "java/lang/Object"))) ([(Jvm.ClassFile.FieldType.object "com/example/halyard/halyard/engine/OperandStack"), Jvm.ClassFile.FieldType.int, Jvm.ClassFile.FieldType.int] : List Jvm.ClassFile.FieldType) (5 : Nat) "com/example/halyard/halyard/engine/OperandStack" "lambda$operand$0" (Jvm.ClassFile.MethodDescriptor.mk ([Jvm.ClassFile.FieldType.int, Jvm.ClassFile.FieldType.int, (Jvm.ClassFile.FieldType.object "com/example/halyard/halyard/engine/Frame")] : List Jvm.ClassFile.FieldType) (Option.some (Jvm.ClassFile.FieldType.object "java/lang/Object"))) false (Jvm.ClassFile.MethodDescriptor.mk ([(Jvm.ClassFile.FieldType.object "com/example/halyard/halyard/engine/Frame")] : List Jvm.ClassFile.FieldType) (Option.some (Jvm.ClassFile.FieldType.object "java/lang/Object")))) 18

def heap : Heap := #[{ cls := 8, slots := #[.int 0, .int 127, .ref 1, .null, .int 0], vm := .statics 8 },
  { cls := 16, slots := #[.ref 2, .ref 3, .ref 4, .ref 5, .ref 6, .ref 7, .ref 8, .ref 9, .ref 10, .ref 11, .ref 12, .ref 13, .ref 14, .ref 15, .ref 16, .ref 17, .ref 18, .ref 19, .ref 20, .ref 21, .ref 22, .ref 23, .ref 24, .ref 25, .ref 26, .ref 27, .ref 28, .ref 29, .ref 30, .ref 31, .ref 32, .ref 33, .ref 34, .ref 35, .ref 36, .ref 37, .ref 38, .ref 39, .ref 40, .ref 41, .ref 42, .ref 43, .ref 44, .ref 45, .ref 46, .ref 47, .ref 48, .ref 49, .ref 50, .ref 51, .ref 52, .ref 53, .ref 54, .ref 55, .ref 56, .ref 57, .ref 58, .ref 59, .ref 60, .ref 61, .ref 62, .ref 63, .ref 64, .ref 65, .ref 66, .ref 67, .ref 68, .ref 69, .ref 70, .ref 71, .ref 72, .ref 73, .ref 74, .ref 75, .ref 76, .ref 77, .ref 78, .ref 79, .ref 80, .ref 81, .ref 82, .ref 83, .ref 84, .ref 85, .ref 86, .ref 87, .ref 88, .ref 89, .ref 90, .ref 91, .ref 92, .ref 93, .ref 94, .ref 95, .ref 96, .ref 97, .ref 98, .ref 99, .ref 100, .ref 101, .ref 102, .ref 103, .ref 104, .ref 105, .ref 106, .ref 107, .ref 108, .ref 109, .ref 110, .ref 111, .ref 112, .ref 113, .ref 114, .ref 115, .ref 116, .ref 117, .ref 118, .ref 119, .ref 120, .ref 121, .ref 122, .ref 123, .ref 124, .ref 125, .ref 126, .ref 127, .ref 128, .ref 129, .ref 130, .ref 131, .ref 132, .ref 133, .ref 134, .ref 135, .ref 136, .ref 137, .ref 138, .ref 139, .ref 140, .ref 141, .ref 142, .ref 143, .ref 144, .ref 145, .ref 146, .ref 147, .ref 148, .ref 149, .ref 150, .ref 151, .ref 152, .ref 153, .ref 154, .ref 155, .ref 156, .ref 157, .ref 158, .ref 159, .ref 160, .ref 161, .ref 162, .ref 163, .ref 164, .ref 165, .ref 166, .ref 167, .ref 168, .ref 169, .ref 170, .ref 171, .ref 172, .ref 173, .ref 174, .ref 175, .ref 176, .ref 177, .ref 178, .ref 179, .ref 180, .ref 181, .ref 182, .ref 183, .ref 184, .ref 185, .ref 186, .ref 187, .ref 188, .ref 189, .ref 190, .ref 191, .ref 192, .ref 193, .ref 194, .ref 195, .ref 196, .ref 197, .ref 198, .ref 199, .ref 200, .ref 201, .ref 202, .ref 203, .ref 204, .ref 205, .ref 206, .ref 207, .ref 208, .ref 209, .ref 210, .ref 211, .ref 212, .ref 213, .ref 214, .ref 215, .ref 216, .ref 217, .ref 218, .ref 219, .ref 220, .ref 221, .ref 222, .ref 223, .ref 224, .ref 225, .ref 226, .ref 227, .ref 228, .ref 229, .ref 230, .ref 231, .ref 232, .ref 233, .ref 234, .ref 235, .ref 236, .ref 237, .ref 238, .ref 239, .ref 240, .ref 241, .ref 242, .ref 243, .ref 244, .ref 245, .ref 246, .ref 247, .ref 248, .ref 249, .ref 250, .ref 251, .ref 252, .ref 253, .ref 254, .ref 255, .ref 256, .ref 257], vm := .none },
  { cls := 7, slots := #[.int (-128)], vm := .none },
  { cls := 7, slots := #[.int (-127)], vm := .none },
  { cls := 7, slots := #[.int (-126)], vm := .none },
  { cls := 7, slots := #[.int (-125)], vm := .none },
  { cls := 7, slots := #[.int (-124)], vm := .none },
  { cls := 7, slots := #[.int (-123)], vm := .none },
  { cls := 7, slots := #[.int (-122)], vm := .none },
  { cls := 7, slots := #[.int (-121)], vm := .none },
  { cls := 7, slots := #[.int (-120)], vm := .none },
  { cls := 7, slots := #[.int (-119)], vm := .none },
  { cls := 7, slots := #[.int (-118)], vm := .none },
  { cls := 7, slots := #[.int (-117)], vm := .none },
  { cls := 7, slots := #[.int (-116)], vm := .none },
  { cls := 7, slots := #[.int (-115)], vm := .none },
  { cls := 7, slots := #[.int (-114)], vm := .none },
  { cls := 7, slots := #[.int (-113)], vm := .none },
  { cls := 7, slots := #[.int (-112)], vm := .none },
  { cls := 7, slots := #[.int (-111)], vm := .none },
  { cls := 7, slots := #[.int (-110)], vm := .none },
  { cls := 7, slots := #[.int (-109)], vm := .none },
  { cls := 7, slots := #[.int (-108)], vm := .none },
  { cls := 7, slots := #[.int (-107)], vm := .none },
  { cls := 7, slots := #[.int (-106)], vm := .none },
  { cls := 7, slots := #[.int (-105)], vm := .none },
  { cls := 7, slots := #[.int (-104)], vm := .none },
  { cls := 7, slots := #[.int (-103)], vm := .none },
  { cls := 7, slots := #[.int (-102)], vm := .none },
  { cls := 7, slots := #[.int (-101)], vm := .none },
  { cls := 7, slots := #[.int (-100)], vm := .none },
  { cls := 7, slots := #[.int (-99)], vm := .none },
  { cls := 7, slots := #[.int (-98)], vm := .none },
  { cls := 7, slots := #[.int (-97)], vm := .none },
  { cls := 7, slots := #[.int (-96)], vm := .none },
  { cls := 7, slots := #[.int (-95)], vm := .none },
  { cls := 7, slots := #[.int (-94)], vm := .none },
  { cls := 7, slots := #[.int (-93)], vm := .none },
  { cls := 7, slots := #[.int (-92)], vm := .none },
  { cls := 7, slots := #[.int (-91)], vm := .none },
  { cls := 7, slots := #[.int (-90)], vm := .none },
  { cls := 7, slots := #[.int (-89)], vm := .none },
  { cls := 7, slots := #[.int (-88)], vm := .none },
  { cls := 7, slots := #[.int (-87)], vm := .none },
  { cls := 7, slots := #[.int (-86)], vm := .none },
  { cls := 7, slots := #[.int (-85)], vm := .none },
  { cls := 7, slots := #[.int (-84)], vm := .none },
  { cls := 7, slots := #[.int (-83)], vm := .none },
  { cls := 7, slots := #[.int (-82)], vm := .none },
  { cls := 7, slots := #[.int (-81)], vm := .none },
  { cls := 7, slots := #[.int (-80)], vm := .none },
  { cls := 7, slots := #[.int (-79)], vm := .none },
  { cls := 7, slots := #[.int (-78)], vm := .none },
  { cls := 7, slots := #[.int (-77)], vm := .none },
  { cls := 7, slots := #[.int (-76)], vm := .none },
  { cls := 7, slots := #[.int (-75)], vm := .none },
  { cls := 7, slots := #[.int (-74)], vm := .none },
  { cls := 7, slots := #[.int (-73)], vm := .none },
  { cls := 7, slots := #[.int (-72)], vm := .none },
  { cls := 7, slots := #[.int (-71)], vm := .none },
  { cls := 7, slots := #[.int (-70)], vm := .none },
  { cls := 7, slots := #[.int (-69)], vm := .none },
  { cls := 7, slots := #[.int (-68)], vm := .none },
  { cls := 7, slots := #[.int (-67)], vm := .none },
  { cls := 7, slots := #[.int (-66)], vm := .none },
  { cls := 7, slots := #[.int (-65)], vm := .none },
  { cls := 7, slots := #[.int (-64)], vm := .none },
  { cls := 7, slots := #[.int (-63)], vm := .none },
  { cls := 7, slots := #[.int (-62)], vm := .none },
  { cls := 7, slots := #[.int (-61)], vm := .none },
  { cls := 7, slots := #[.int (-60)], vm := .none },
  { cls := 7, slots := #[.int (-59)], vm := .none },
  { cls := 7, slots := #[.int (-58)], vm := .none },
  { cls := 7, slots := #[.int (-57)], vm := .none },
  { cls := 7, slots := #[.int (-56)], vm := .none },
  { cls := 7, slots := #[.int (-55)], vm := .none },
  { cls := 7, slots := #[.int (-54)], vm := .none },
  { cls := 7, slots := #[.int (-53)], vm := .none },
  { cls := 7, slots := #[.int (-52)], vm := .none },
  { cls := 7, slots := #[.int (-51)], vm := .none },
  { cls := 7, slots := #[.int (-50)], vm := .none },
  { cls := 7, slots := #[.int (-49)], vm := .none },
  { cls := 7, slots := #[.int (-48)], vm := .none },
  { cls := 7, slots := #[.int (-47)], vm := .none },
  { cls := 7, slots := #[.int (-46)], vm := .none },
  { cls := 7, slots := #[.int (-45)], vm := .none },
  { cls := 7, slots := #[.int (-44)], vm := .none },
  { cls := 7, slots := #[.int (-43)], vm := .none },
  { cls := 7, slots := #[.int (-42)], vm := .none },
  { cls := 7, slots := #[.int (-41)], vm := .none },
  { cls := 7, slots := #[.int (-40)], vm := .none },
  { cls := 7, slots := #[.int (-39)], vm := .none },
  { cls := 7, slots := #[.int (-38)], vm := .none },
  { cls := 7, slots := #[.int (-37)], vm := .none },
  { cls := 7, slots := #[.int (-36)], vm := .none },
  { cls := 7, slots := #[.int (-35)], vm := .none },
  { cls := 7, slots := #[.int (-34)], vm := .none },
  { cls := 7, slots := #[.int (-33)], vm := .none },
  { cls := 7, slots := #[.int (-32)], vm := .none },
  { cls := 7, slots := #[.int (-31)], vm := .none },
  { cls := 7, slots := #[.int (-30)], vm := .none },
  { cls := 7, slots := #[.int (-29)], vm := .none },
  { cls := 7, slots := #[.int (-28)], vm := .none },
  { cls := 7, slots := #[.int (-27)], vm := .none },
  { cls := 7, slots := #[.int (-26)], vm := .none },
  { cls := 7, slots := #[.int (-25)], vm := .none },
  { cls := 7, slots := #[.int (-24)], vm := .none },
  { cls := 7, slots := #[.int (-23)], vm := .none },
  { cls := 7, slots := #[.int (-22)], vm := .none },
  { cls := 7, slots := #[.int (-21)], vm := .none },
  { cls := 7, slots := #[.int (-20)], vm := .none },
  { cls := 7, slots := #[.int (-19)], vm := .none },
  { cls := 7, slots := #[.int (-18)], vm := .none },
  { cls := 7, slots := #[.int (-17)], vm := .none },
  { cls := 7, slots := #[.int (-16)], vm := .none },
  { cls := 7, slots := #[.int (-15)], vm := .none },
  { cls := 7, slots := #[.int (-14)], vm := .none },
  { cls := 7, slots := #[.int (-13)], vm := .none },
  { cls := 7, slots := #[.int (-12)], vm := .none },
  { cls := 7, slots := #[.int (-11)], vm := .none },
  { cls := 7, slots := #[.int (-10)], vm := .none },
  { cls := 7, slots := #[.int (-9)], vm := .none },
  { cls := 7, slots := #[.int (-8)], vm := .none },
  { cls := 7, slots := #[.int (-7)], vm := .none },
  { cls := 7, slots := #[.int (-6)], vm := .none },
  { cls := 7, slots := #[.int (-5)], vm := .none },
  { cls := 7, slots := #[.int (-4)], vm := .none },
  { cls := 7, slots := #[.int (-3)], vm := .none },
  { cls := 7, slots := #[.int (-2)], vm := .none },
  { cls := 7, slots := #[.int (-1)], vm := .none },
  { cls := 7, slots := #[.int 0], vm := .none },
  { cls := 7, slots := #[.int 1], vm := .none },
  { cls := 7, slots := #[.int 2], vm := .none },
  { cls := 7, slots := #[.int 3], vm := .none },
  { cls := 7, slots := #[.int 4], vm := .none },
  { cls := 7, slots := #[.int 5], vm := .none },
  { cls := 7, slots := #[.int 6], vm := .none },
  { cls := 7, slots := #[.int 7], vm := .none },
  { cls := 7, slots := #[.int 8], vm := .none },
  { cls := 7, slots := #[.int 9], vm := .none },
  { cls := 7, slots := #[.int 10], vm := .none },
  { cls := 7, slots := #[.int 11], vm := .none },
  { cls := 7, slots := #[.int 12], vm := .none },
  { cls := 7, slots := #[.int 13], vm := .none },
  { cls := 7, slots := #[.int 14], vm := .none },
  { cls := 7, slots := #[.int 15], vm := .none },
  { cls := 7, slots := #[.int 16], vm := .none },
  { cls := 7, slots := #[.int 17], vm := .none },
  { cls := 7, slots := #[.int 18], vm := .none },
  { cls := 7, slots := #[.int 19], vm := .none },
  { cls := 7, slots := #[.int 20], vm := .none },
  { cls := 7, slots := #[.int 21], vm := .none },
  { cls := 7, slots := #[.int 22], vm := .none },
  { cls := 7, slots := #[.int 23], vm := .none },
  { cls := 7, slots := #[.int 24], vm := .none },
  { cls := 7, slots := #[.int 25], vm := .none },
  { cls := 7, slots := #[.int 26], vm := .none },
  { cls := 7, slots := #[.int 27], vm := .none },
  { cls := 7, slots := #[.int 28], vm := .none },
  { cls := 7, slots := #[.int 29], vm := .none },
  { cls := 7, slots := #[.int 30], vm := .none },
  { cls := 7, slots := #[.int 31], vm := .none },
  { cls := 7, slots := #[.int 32], vm := .none },
  { cls := 7, slots := #[.int 33], vm := .none },
  { cls := 7, slots := #[.int 34], vm := .none },
  { cls := 7, slots := #[.int 35], vm := .none },
  { cls := 7, slots := #[.int 36], vm := .none },
  { cls := 7, slots := #[.int 37], vm := .none },
  { cls := 7, slots := #[.int 38], vm := .none },
  { cls := 7, slots := #[.int 39], vm := .none },
  { cls := 7, slots := #[.int 40], vm := .none },
  { cls := 7, slots := #[.int 41], vm := .none },
  { cls := 7, slots := #[.int 42], vm := .none },
  { cls := 7, slots := #[.int 43], vm := .none },
  { cls := 7, slots := #[.int 44], vm := .none },
  { cls := 7, slots := #[.int 45], vm := .none },
  { cls := 7, slots := #[.int 46], vm := .none },
  { cls := 7, slots := #[.int 47], vm := .none },
  { cls := 7, slots := #[.int 48], vm := .none },
  { cls := 7, slots := #[.int 49], vm := .none },
  { cls := 7, slots := #[.int 50], vm := .none },
  { cls := 7, slots := #[.int 51], vm := .none },
  { cls := 7, slots := #[.int 52], vm := .none },
  { cls := 7, slots := #[.int 53], vm := .none },
  { cls := 7, slots := #[.int 54], vm := .none },
  { cls := 7, slots := #[.int 55], vm := .none },
  { cls := 7, slots := #[.int 56], vm := .none },
  { cls := 7, slots := #[.int 57], vm := .none },
  { cls := 7, slots := #[.int 58], vm := .none },
  { cls := 7, slots := #[.int 59], vm := .none },
  { cls := 7, slots := #[.int 60], vm := .none },
  { cls := 7, slots := #[.int 61], vm := .none },
  { cls := 7, slots := #[.int 62], vm := .none },
  { cls := 7, slots := #[.int 63], vm := .none },
  { cls := 7, slots := #[.int 64], vm := .none },
  { cls := 7, slots := #[.int 65], vm := .none },
  { cls := 7, slots := #[.int 66], vm := .none },
  { cls := 7, slots := #[.int 67], vm := .none },
  { cls := 7, slots := #[.int 68], vm := .none },
  { cls := 7, slots := #[.int 69], vm := .none },
  { cls := 7, slots := #[.int 70], vm := .none },
  { cls := 7, slots := #[.int 71], vm := .none },
  { cls := 7, slots := #[.int 72], vm := .none },
  { cls := 7, slots := #[.int 73], vm := .none },
  { cls := 7, slots := #[.int 74], vm := .none },
  { cls := 7, slots := #[.int 75], vm := .none },
  { cls := 7, slots := #[.int 76], vm := .none },
  { cls := 7, slots := #[.int 77], vm := .none },
  { cls := 7, slots := #[.int 78], vm := .none },
  { cls := 7, slots := #[.int 79], vm := .none },
  { cls := 7, slots := #[.int 80], vm := .none },
  { cls := 7, slots := #[.int 81], vm := .none },
  { cls := 7, slots := #[.int 82], vm := .none },
  { cls := 7, slots := #[.int 83], vm := .none },
  { cls := 7, slots := #[.int 84], vm := .none },
  { cls := 7, slots := #[.int 85], vm := .none },
  { cls := 7, slots := #[.int 86], vm := .none },
  { cls := 7, slots := #[.int 87], vm := .none },
  { cls := 7, slots := #[.int 88], vm := .none },
  { cls := 7, slots := #[.int 89], vm := .none },
  { cls := 7, slots := #[.int 90], vm := .none },
  { cls := 7, slots := #[.int 91], vm := .none },
  { cls := 7, slots := #[.int 92], vm := .none },
  { cls := 7, slots := #[.int 93], vm := .none },
  { cls := 7, slots := #[.int 94], vm := .none },
  { cls := 7, slots := #[.int 95], vm := .none },
  { cls := 7, slots := #[.int 96], vm := .none },
  { cls := 7, slots := #[.int 97], vm := .none },
  { cls := 7, slots := #[.int 98], vm := .none },
  { cls := 7, slots := #[.int 99], vm := .none },
  { cls := 7, slots := #[.int 100], vm := .none },
  { cls := 7, slots := #[.int 101], vm := .none },
  { cls := 7, slots := #[.int 102], vm := .none },
  { cls := 7, slots := #[.int 103], vm := .none },
  { cls := 7, slots := #[.int 104], vm := .none },
  { cls := 7, slots := #[.int 105], vm := .none },
  { cls := 7, slots := #[.int 106], vm := .none },
  { cls := 7, slots := #[.int 107], vm := .none },
  { cls := 7, slots := #[.int 108], vm := .none },
  { cls := 7, slots := #[.int 109], vm := .none },
  { cls := 7, slots := #[.int 110], vm := .none },
  { cls := 7, slots := #[.int 111], vm := .none },
  { cls := 7, slots := #[.int 112], vm := .none },
  { cls := 7, slots := #[.int 113], vm := .none },
  { cls := 7, slots := #[.int 114], vm := .none },
  { cls := 7, slots := #[.int 115], vm := .none },
  { cls := 7, slots := #[.int 116], vm := .none },
  { cls := 7, slots := #[.int 117], vm := .none },
  { cls := 7, slots := #[.int 118], vm := .none },
  { cls := 7, slots := #[.int 119], vm := .none },
  { cls := 7, slots := #[.int 120], vm := .none },
  { cls := 7, slots := #[.int 121], vm := .none },
  { cls := 7, slots := #[.int 122], vm := .none },
  { cls := 7, slots := #[.int 123], vm := .none },
  { cls := 7, slots := #[.int 124], vm := .none },
  { cls := 7, slots := #[.int 125], vm := .none },
  { cls := 7, slots := #[.int 126], vm := .none },
  { cls := 7, slots := #[.int 127], vm := .none }]
def classes : Array Class := #[k0, k1, k2, k3, k4, k5, k6, k7, k8, k9, k10, k11, k12, k13, k14, k15, k16, k17, k18]
def interned : List (Array UInt16 × Addr) := []
def slotsUsed : Nat := 517
def theMethod : MethodId := ⟨1, 1⟩
def args0 : Array Value := #[.int 2, .int 1000, .int 3, .int 0]
def aboutOver (below : List Frame) : State where
  vm := { classes := classes, interned := interned.toArray }
  heap := heap
  slotsUsed := slotsUsed
  threads := #[{ frames := .invoking theMethod args0 :: below }]
def below0 : List Frame := [.native { method := ⟨0, 0⟩, args := #[] }]
def about1 : State := aboutOver below0
def p0 : Program := .bare "" "" ""
def e0 : Env := launch0.env 0 0 0
theorem w_frames : about1.frames = Frame.invoking theMethod args0 :: below0 := rfl
set_option maxRecDepth 65536 in
theorem w_args : argsFit about1.vm theMethod args0 = true := by decide +kernel
set_option maxRecDepth 65536 in
theorem w_heap : heapFits about1 = true := by decide +kernel
set_option maxRecDepth 65536 in
theorem w_runnable : about1.curStatus? = some .runnable := by decide +kernel
set_option maxRecDepth 65536 in
theorem w_alone : about1.alone = true := by decide +kernel
set_option maxRecDepth 65536 in
theorem w_named : about1.methodNamed? x = some theMethod := by decide +kernel
set_option maxRecDepth 65536 in
theorem w_hears : about1.hears theMethod below0 = true := by decide +kernel
set_option maxRecDepth 65536 in
theorem w_ripe : about1.ripe theMethod args0 below0 = true := by decide +kernel
theorem w_running : about1.status = .running := rfl
set_option maxRecDepth 65536 in
theorem w_room : about1.hasRoom e0.platform room_1 = true :=
  launch0.hasRoom_least _ room_1 (by decide +kernel) (by decide +kernel) (by decide +kernel) (by decide +kernel) (by decide +kernel) (by decide +kernel)
theorem allAtoms_all (ts : List Jvm.Cond) (a : Array Jvm.Value) (st : Jvm.State) : (allAtoms ts).before a st = ts.all (fun c => c.before a st) := by
  induction ts with
  | nil => rfl
  | cons c t ih =>
    show (Jvm.Cond.and c (allAtoms t)).before a st = _
    rw [Jvm.Cond.before_and, ih, List.all_cons]
def words1 : List Jvm.Cond := Jvm.Cond.code x code maxLocals ret :: tables_1
/-- a 'code' word, met by the world's own term for the bytes: nothing is compared byte by byte -/
theorem code_word {y : MethodName} {bytes : ByteArray} {mx : Nat} {rt : Option FieldType} {a : Array Value} {s : State} {m : MethodId} {meth : Method} {c : Code} (h1 : s.methodNamed? y = some m) (h2 : s.vm.method? m = some meth) (h3 : meth.code = some c) (h4 : c.code = bytes)
    (h5 : (c.maxLocals == mx && c.exceptionTable.isEmpty && decide (c.maxStack ≤ mostOperands) && decide (meth.sig.returnType = rt) && !meth.locks && decide (parseMethodDescriptor y.desc = some meth.sig)) = true) : (Jvm.Cond.code y bytes mx rt).before a s = true := by
  simp only [Bool.and_eq_true, beq_iff_eq, Bool.not_eq_true', decide_eq_true_eq] at h5
  obtain ⟨⟨⟨⟨⟨g1, g2⟩, g3⟩, g4⟩, g5⟩, g6⟩ := h5
  simp [Cond.before, Cond.holds, Cond.value, h1, h2, h3, h4, g1, g2, g3, g4, g5, g6]
def isCode : Jvm.Cond → Bool
  | .code _ _ _ _ => true
  | _ => false
theorem all_split {L : List Jvm.Cond} {P : Jvm.Cond → Bool} (h1 : L.all (fun c => isCode c || P c) = true) (h2 : ∀ c ∈ L.filter isCode, P c = true) : L.all P = true := by
  refine List.all_eq_true.mpr fun c hc => ?_
  have h := List.all_eq_true.mp h1 c hc
  rcases Bool.eq_false_or_eq_true (isCode c) with hi | hi
  · exact h2 c (List.mem_filter.mpr ⟨hc, hi⟩)
  · simpa [hi] using h
set_option maxRecDepth 65536 in
theorem w_c0 : (Jvm.Cond.code x code maxLocals ret).before args0 about1 = true := code_word (m := ⟨1, 1⟩) (meth := k1m1) (c := k1c1) (by decide +kernel) rfl rfl rfl (by decide +kernel)
set_option maxRecDepth 65536 in
theorem w_c1 : (Jvm.Cond.code ({ cls := "java/lang/Integer", name := "valueOf", desc := "(I)Ljava/lang/Integer;" } : Jvm.MethodName) jdk_33_method_22_code (1 : Nat) (Option.some (Jvm.ClassFile.FieldType.object "java/lang/Integer"))).before args0 about1 = true := code_word (m := ⟨7, 0⟩) (meth := k7m0) (c := k7c0) (by decide +kernel) rfl rfl rfl (by decide +kernel)
set_option maxRecDepth 65536 in
theorem w_c2 : (Jvm.Cond.code ({ cls := "com/example/halyard/halyard/engine/OperandStack", name := "<init>", desc := "()V" } : Jvm.MethodName) prog_114_method_1_code (1 : Nat) (Option.none : Option Jvm.ClassFile.FieldType)).before args0 about1 = true := code_word (m := ⟨9, 0⟩) (meth := k9m0) (c := k9c0) (by decide +kernel) rfl rfl rfl (by decide +kernel)
set_option maxRecDepth 65536 in
theorem w_c3 : (Jvm.Cond.code ({ cls := "java/lang/Object", name := "<init>", desc := "()V" } : Jvm.MethodName) object_method_1_code (1 : Nat) (Option.none : Option Jvm.ClassFile.FieldType)).before args0 about1 = true := code_word (m := ⟨0, 0⟩) (meth := k0m0) (c := k0c0) (by decide +kernel) rfl rfl rfl (by decide +kernel)
set_option maxRecDepth 65536 in
theorem w_c4 : (Jvm.Cond.code ({ cls := "com/example/halyard/halyard/engine/OperandStack", name := "push", desc := "(Ljava/lang/Object;)V" } : Jvm.MethodName) prog_114_method_2_code (2 : Nat) (Option.none : Option Jvm.ClassFile.FieldType)).before args0 about1 = true := code_word (m := ⟨9, 1⟩) (meth := k9m1) (c := k9c1) (by decide +kernel) rfl rfl rfl (by decide +kernel)
set_option maxRecDepth 65536 in
theorem w_c5 : (Jvm.Cond.code ({ cls := "com/example/halyard/halyard/engine/OperandStack", name := "pop", desc := "()Ljava/lang/Object;" } : Jvm.MethodName) prog_114_method_3_code (2 : Nat) (Option.some (Jvm.ClassFile.FieldType.object "java/lang/Object"))).before args0 about1 = true := code_word (m := ⟨9, 2⟩) (meth := k9m2) (c := k9c2) (by decide +kernel) rfl rfl rfl (by decide +kernel)
set_option maxRecDepth 65536 in
theorem w_c6 : (Jvm.Cond.code ({ cls := "com/example/halyard/halyard/engine/OperandStack", name := "drop", desc := "(I)V" } : Jvm.MethodName) prog_114_method_4_code (3 : Nat) (Option.none : Option Jvm.ClassFile.FieldType)).before args0 about1 = true := code_word (m := ⟨9, 3⟩) (meth := k9m3) (c := k9c3) (by decide +kernel) rfl rfl rfl (by decide +kernel)
set_option maxRecDepth 65536 in
theorem w_c7 : (Jvm.Cond.code ({ cls := "com/example/halyard/halyard/engine/OperandStack", name := "operand", desc := "(II)Lcom/example/halyard/halyard/engine/Code;" } : Jvm.MethodName) prog_114_method_5_code (3 : Nat) (Option.some (Jvm.ClassFile.FieldType.object "com/example/halyard/halyard/engine/Code"))).before args0 about1 = true := code_word (m := ⟨9, 4⟩) (meth := k9m4) (c := k9c4) (by decide +kernel) rfl rfl rfl (by decide +kernel)
set_option maxRecDepth 65536 in
theorem w_c8 : (Jvm.Cond.code ({ cls := "com/example/halyard/halyard/engine/OperandStack", name := "lambda$operand$0", desc := "(IILcom/example/halyard/halyard/engine/Frame;)Ljava/lang/Object;" } : Jvm.MethodName) prog_114_method_6_code (4 : Nat) (Option.some (Jvm.ClassFile.FieldType.object "java/lang/Object"))).before args0 about1 = true := code_word (m := ⟨9, 5⟩) (meth := k9m5) (c := k9c5) (by decide +kernel) rfl rfl rfl (by decide +kernel)
set_option maxRecDepth 65536 in
theorem w_c9 : (Jvm.Cond.code ({ cls := "java/lang/Integer", name := "<init>", desc := "(I)V" } : Jvm.MethodName) jdk_33_method_23_code (2 : Nat) (Option.none : Option Jvm.ClassFile.FieldType)).before args0 about1 = true := code_word (m := ⟨7, 1⟩) (meth := k7m1) (c := k7c1) (by decide +kernel) rfl rfl rfl (by decide +kernel)
set_option maxRecDepth 65536 in
theorem w_c10 : (Jvm.Cond.code ({ cls := "java/lang/Number", name := "<init>", desc := "()V" } : Jvm.MethodName) jdk_18_method_1_code (1 : Nat) (Option.none : Option Jvm.ClassFile.FieldType)).before args0 about1 = true := code_word (m := ⟨3, 0⟩) (meth := k3m0) (c := k3c0) (by decide +kernel) rfl rfl rfl (by decide +kernel)
def codes1 : List Jvm.Cond := [Jvm.Cond.code x code maxLocals ret, Jvm.Cond.code ({ cls := "java/lang/Integer", name := "valueOf", desc := "(I)Ljava/lang/Integer;" } : Jvm.MethodName) jdk_33_method_22_code (1 : Nat) (Option.some (Jvm.ClassFile.FieldType.object "java/lang/Integer")), Jvm.Cond.code ({ cls := "com/example/halyard/halyard/engine/OperandStack", name := "<init>", desc := "()V" } : Jvm.MethodName) prog_114_method_1_code (1 : Nat) (Option.none : Option Jvm.ClassFile.FieldType), Jvm.Cond.code ({ cls := "java/lang/Object", name := "<init>", desc := "()V" } : Jvm.MethodName) object_method_1_code (1 : Nat) (Option.none : Option Jvm.ClassFile.FieldType), Jvm.Cond.code ({ cls := "com/example/halyard/halyard/engine/OperandStack", name := "push", desc := "(Ljava/lang/Object;)V" } : Jvm.MethodName) prog_114_method_2_code (2 : Nat) (Option.none : Option Jvm.ClassFile.FieldType), Jvm.Cond.code ({ cls := "com/example/halyard/halyard/engine/OperandStack", name := "pop", desc := "()Ljava/lang/Object;" } : Jvm.MethodName) prog_114_method_3_code (2 : Nat) (Option.some (Jvm.ClassFile.FieldType.object "java/lang/Object")), Jvm.Cond.code ({ cls := "com/example/halyard/halyard/engine/OperandStack", name := "drop", desc := "(I)V" } : Jvm.MethodName) prog_114_method_4_code (3 : Nat) (Option.none : Option Jvm.ClassFile.FieldType), Jvm.Cond.code ({ cls := "com/example/halyard/halyard/engine/OperandStack", name := "operand", desc := "(II)Lcom/example/halyard/halyard/engine/Code;" } : Jvm.MethodName) prog_114_method_5_code (3 : Nat) (Option.some (Jvm.ClassFile.FieldType.object "com/example/halyard/halyard/engine/Code")), Jvm.Cond.code ({ cls := "com/example/halyard/halyard/engine/OperandStack", name := "lambda$operand$0", desc := "(IILcom/example/halyard/halyard/engine/Frame;)Ljava/lang/Object;" } : Jvm.MethodName) prog_114_method_6_code (4 : Nat) (Option.some (Jvm.ClassFile.FieldType.object "java/lang/Object")), Jvm.Cond.code ({ cls := "java/lang/Integer", name := "<init>", desc := "(I)V" } : Jvm.MethodName) jdk_33_method_23_code (2 : Nat) (Option.none : Option Jvm.ClassFile.FieldType), Jvm.Cond.code ({ cls := "java/lang/Number", name := "<init>", desc := "()V" } : Jvm.MethodName) jdk_18_method_1_code (1 : Nat) (Option.none : Option Jvm.ClassFile.FieldType)]
set_option maxRecDepth 65536 in
theorem codes_eq : words1.filter isCode = codes1 := rfl
theorem w_codes : ∀ c ∈ words1.filter isCode, c.before args0 about1 = true := by
  rw [codes_eq]
  intro c hc
  simp only [codes1, List.mem_cons, List.not_mem_nil, or_false] at hc
  rcases hc with rfl | rfl | rfl | rfl | rfl | rfl | rfl | rfl | rfl | rfl | rfl
  · exact w_c0
  · exact w_c1
  · exact w_c2
  · exact w_c3
  · exact w_c4
  · exact w_c5
  · exact w_c6
  · exact w_c7
  · exact w_c8
  · exact w_c9
  · exact w_c10
set_option maxRecDepth 65536 in
theorem w_t1 : (words1.take 24).all (fun c => isCode c || c.before args0 about1) = true := by decide +kernel
set_option maxRecDepth 65536 in
theorem w_t2 : ((words1.drop 24).take 24).all (fun c => isCode c || c.before args0 about1) = true := by decide +kernel
set_option maxRecDepth 65536 in
theorem w_t3 : ((words1.drop 24).drop 24).all (fun c => isCode c || c.before args0 about1) = true := by decide +kernel
theorem w_tables : (allAtoms (Jvm.Cond.code x code maxLocals ret :: tables_1)).before args0 about1 = true := by
  rw [allAtoms_all]
  show words1.all (fun c => c.before args0 about1) = true
  refine all_split ?_ w_codes
  rw [← List.take_append_drop 24 words1, List.all_append, w_t1, ← List.take_append_drop 24 (words1.drop 24), List.all_append, w_t2, w_t3]
  rfl
set_option maxRecDepth 65536 in
theorem w_rest : rest_1_c.before args0 about1 = true := by decide +kernel
set_option maxRecDepth 65536 in
theorem w_case : (Jvm.Cond.and given_1 narrow_1).before args0 about1 = true := by decide +kernel
theorem w_applies : (headSpec (Jvm.Cond.code x code maxLocals ret :: tables_1) room_1).applies x e0.platform about1 = true :=
  (Spec.applies_iff w_frames).mpr ⟨w_running, w_runnable, w_alone, w_named, w_hears, w_ripe, w_room, w_tables⟩
theorem atStart : AtStart classFile x code maxLocals ret World_1 tables_1 room_1 Calls_1 rest_1 Pre_1 launch0 p0 e0 about1 theMethod args0 below0 :=
  ⟨lists_1, trivial, launch0.admits_env _ _ _, launch0.least_env, fairChoices_fair.cas, fairChoices_fair.clock, w_frames, w_args, w_heap, w_applies, trivial, w_rest, w_case⟩
end start1
theorem witness_1 : WitnessClaimed_1 := ⟨start1.p0, start1.e0, start1.about1, start1.theMethod, start1.args0, start1.below0, start1.atStart⟩
end Jvm.Pilot.@@N@@
