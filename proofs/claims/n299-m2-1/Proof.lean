import JvmDerived
import JvmDerived.Pilot.@@N@@Statement
import JvmDerived.Pilot.@@N@@Code
set_option linter.unusedVariables false
set_option linter.unusedSimpArgs false
@@BLOCK:NumsL.lean.txt@@
namespace Jvm.Pilot.@@N@@
open Jvm Jvm.ClassFile Sem Op Lib Jvm.Free Jvm.Stand Jvm.LawKit Jvm.RoadKit Bundle Jvm.Pilot.@@N@@.Jvm.D
section Own
variable {p : Program} {l : Launch} {e : Env} {R : Room} {s : State} {m : MethodId} {args : Array Value} {below : List Frame} {meth : Method} {c : Code} {T : State} {locs : List Loc} {cells slots : Nat} {Z : State} {a0 : Array Value} {h : Heap}
/-- from here the walk comes to an end that P holds of -/
def own_G (p : Program) (e : Env) (below : List Frame) (P : State → Outcome → Prop) (T : State) (g : JFrame) : Prop := ∃ t o, Steps p.tables e below (T.setTop g) t ∧ P t o
def own_P (below : List Frame) (s : State) (rm : Room) (Q : Option Value → Heap → List Loc → Prop) (t : State) (o : Outcome) : Prop := t.status = .running ∧ Ended t below o ∧ ∃ v L, o = .returned v ∧ Q v t.heap L ∧ FrameEnd s o t L rm.cells rm.slots
/-- a body's contract: over these arguments and this heap it returns, and Q holds of what it returns, the heap and the places written -/
def own_M (l : Launch) (Z : State) (y : MethodName) (code : ByteArray) (maxL : Nat) (ret : Option FieldType) (rm : Room) (as : Array Value) (h : Heap) (Q : Option Value → Heap → List Loc → Prop) : Prop :=
  ∀ ws : List Jvm.Cond, MetFree l y (head1 (Jvm.Cond.code y code maxL ret :: ws) rm) (fun a U => a = as ∧ Z.Warmed39 U.vm ∧ U.heap = h) (fun _ _ _ _ _ => True) (fun _ U o U' => ∃ v L, o = .returned v ∧ Q v U'.heap L ∧ FrameEnd U o U' L rm.cells rm.slots)
theorem own_go {P : State → Outcome → Prop} {T' : State} {g g' : JFrame} (st : ∀ t, Steps p.tables e below (T'.setTop g') t → Steps p.tables e below (T.setTop g) t) (k : own_G p e below P T' g') : own_G p e below P T g := by
  obtain ⟨t, o, h1, h2⟩ := k
  exact ⟨t, o, st t h1, h2⟩
theorem own_body {y : MethodName} {code : ByteArray} {maxL : Nat} {ret : Option FieldType} {rm : Room} {as : Array Value} {Q : Option Value → Heap → List Loc → Prop} (hn : plainFor y = true)
    (body : ∀ (p : Program) (e : Env) (s : State) (m : MethodId) (below : List Frame) (meth : Method) (c : Code) (T : State), p.tables.exec = Jvm.exec → c.code = code → c.maxLocals = maxL → meth.locks = false → s.vm.findClass y.cls = some m.cls → meth.sig.returnType = ret → meth.name = y.name → Z.Warmed39 s.vm → Stand p l e rm s m as below meth c T [] 0 0 → T.heap = h → own_G p e below (own_P below s rm Q) T (entryFrame m as maxL)) :
    own_M l Z y code maxL ret rm as h Q := by
  intro ws
  refine MetFree.of_bodySF hn hisR ?_
  intro p e s m args below meth c s₁ Bd hml0 hP hK
  obtain ⟨rfl, hZ, hh⟩ := hP
  obtain ⟨t, o, h1, h2, h3, h4⟩ := body p e s m below meth c s₁ Bd.exec Bd.bytes hml0 Bd.notSynchronized (findClass_of_methodNamed Bd.named) Bd.returns (name_of_methodNamed Bd.named Bd.method).1 hZ (Stand.of_body Bd) (by rw [← hh, Bd.state]; rfl)
  exact ⟨t, o, h1, h2, h3, h4⟩
theorem own_retI {rm : Room} {Q : Option Value → Heap → List Loc → Prop} (X : Stand p l e R s m args below meth c T locs cells slots) (hx : p.tables.exec = Jvm.exec) (hlk : meth.locks = false) (hret : meth.sig.returnType = some .int) {pc : Nat} {Ls : Array Slot} {z : Int32} {rest : List Value} (hd : decode c.code pc = .ok (.ireturn, 1)) (hc : cells ≤ rm.cells) (hs : slots ≤ rm.slots) (hQ : Q (some (.int z)) T.heap locs) :
    own_G p e below (own_P below s rm Q) T (mkF m pc Ls (.int z :: rest)) := by
  obtain ⟨fs, hr, hrun, hended, hW, hsame⟩ := X.leave (v := some (.int z)) (fun h => by rw [hret] at h; cases h) hlk
  exact ⟨_, _, retOut X hx hret rfl (Or.inl ⟨rfl, Or.inl rfl, _, rfl⟩) hd hr, hrun, hended, _, _, rfl, hQ, ⟨_, rfl⟩, hW, hsame.mono hc hs⟩
theorem own_retN {rm : Room} {Q : Option Value → Heap → List Loc → Prop} (X : Stand p l e R s m args below meth c T locs cells slots) (hx : p.tables.exec = Jvm.exec) (hlk : meth.locks = false) {t : FieldType} (hret : meth.sig.returnType = some t) (ht : t = .boolean ∨ t = .byte ∨ t = .char ∨ t = .short) {pc : Nat} {Ls : Array Slot} {z : Int32} {rest : List Value} (hd : decode c.code pc = .ok (.ireturn, 1)) (hc : cells ≤ rm.cells) (hs : slots ≤ rm.slots) (hQ : Q (some (.int (nar t z))) T.heap locs) :
    own_G p e below (own_P below s rm Q) T (mkF m pc Ls (.int z :: rest)) := by
  obtain ⟨fs, hr, hrun, hended, hW, hsame⟩ := X.leave (v := some (.int (nar t z))) (fun h => by rw [hret] at h; cases h) hlk
  exact ⟨_, _, retN X hx hret ht hd hr, hrun, hended, _, _, rfl, hQ, ⟨_, rfl⟩, hW, hsame.mono hc hs⟩
theorem own_narrow {t : FieldType} {w : Value} (hw : w.isRef = true) : narrow t w = w := by
  rcases ref_cases hw with rfl | ⟨a, rfl⟩ <;> cases t <;> rfl
theorem own_retA {rm : Room} {Q : Option Value → Heap → List Loc → Prop} (X : Stand p l e R s m args below meth c T locs cells slots) (hx : p.tables.exec = Jvm.exec) (hlk : meth.locks = false) {t : FieldType} (hret : meth.sig.returnType = some t) (ht : t.isReference = true) {pc : Nat} {Ls : Array Slot} {w : Value} {rest : List Value} (hw : w.isRef = true) (hd : decode c.code pc = .ok (.areturn, 1)) (hc : cells ≤ rm.cells) (hs : slots ≤ rm.slots) (hQ : Q (some w) T.heap locs) :
    own_G p e below (own_P below s rm Q) T (mkF m pc Ls (w :: rest)) := by
  obtain ⟨fs, hr, hrun, hended, hW, hsame⟩ := X.leave (v := some w) (fun h => by rw [hret] at h; cases h) hlk
  exact ⟨_, _, retOut X hx hret (own_narrow hw) (Or.inr (Or.inr (Or.inr (Or.inr ⟨rfl, ht, hw⟩)))) hd hr, hrun, hended, _, _, rfl, hQ, ⟨_, rfl⟩, hW, hsame.mono hc hs⟩
theorem own_ret0 {rm : Room} {Q : Option Value → Heap → List Loc → Prop} (X : Stand p l e R s m args below meth c T locs cells slots) (hx : p.tables.exec = Jvm.exec) (hlk : meth.locks = false) (hret : meth.sig.returnType = none) {pc : Nat} {Ls : Array Slot} (hd : decode c.code pc = .ok (.return_, 1)) (hc : cells ≤ rm.cells) (hs : slots ≤ rm.slots) (hQ : Q none T.heap locs) :
    own_G p e below (own_P below s rm Q) T (mkF m pc Ls []) := by
  obtain ⟨fs, hr, hrun, hended, hW, hsame⟩ := X.leave (v := none) (fun _ => rfl) hlk
  exact ⟨_, _, X.returnOut hx hret hd hr, hrun, hended, _, _, rfl, hQ, ⟨_, rfl⟩, hW, hsame.mono hc hs⟩
theorem own_callS (X : Stand p l e R s m args below meth c T locs cells slots) (hx : p.tables.exec = Jvm.exec) (hZ : Z.Warmed39 s.vm) {own : String} {index : Nat} {y : MethodName} {bytes : ByteArray} {maxL : Nat} {ret : Option FieldType} (hown : s.vm.findClass own = some m.cls)
    (w1 : (Jvm.Cond.methodLink own index y).before a0 Z = true) (w2 : (Jvm.Cond.static y).before a0 Z = true) (w3 : (Jvm.Cond.initialized y.cls).before a0 Z = true) (w4 : (Jvm.Cond.code y bytes maxL ret).before a0 Z = true) (hy : y.cls ≠ "java/lang/invoke/MethodHandle" ∧ y.cls ≠ "java/lang/invoke/VarHandle")
    {rm : Room} {argsL rest : List Value} {Q : Option Value → Heap → List Loc → Prop} (hM : own_M l Z y bytes maxL ret rm argsL.toArray h Q) (eT : T.heap = h) {g : JFrame} (hg : g.method = m) (hsize : g.locals.size = c.maxLocals) {ps : List FieldType} {r : Option FieldType} (hpd : parseMethodDescriptor y.desc = some ⟨ps, r⟩) (hpl : argsL.length = ps.length)
    (hstack : g.stack = argsL.reverse ++ rest) {W : Nat} (hW : 2 * g.monitorRoom + (rest.map fun v => v.category).sum ≤ W) (hdg : decode c.code g.pc = .ok (.invokestatic index, 3)) (hf : rm.frames + 1 ≤ R.frames) (hl : W + (maxL + 11) + rm.locals ≤ R.locals) (hc : cells + rm.cells ≤ R.cells) (hs : slots + rm.slots ≤ R.slots) :
    ∃ (T' : State) (L : List Loc) (v : Option Value), Stand p l e R s m args below meth c T' (locs ++ L) (cells + rm.cells) (slots + rm.slots) ∧ Q v T'.heap L ∧ ∀ t, Steps p.tables e below (T'.setTop { g with pc := g.pc + 3, stack := v.toList ++ rest }) t → Steps p.tables e below (T.setTop g) t := by
  obtain ⟨v, vm₁, ⟨T', L', k', n'⟩, -, X', ⟨L, hQ, e1, e2, e3⟩, st⟩ := Jvm.LawKit.callS X hx (y := y) hown (mvT hZ w1) (mvT hZ w2) (mvT hZ w3) (mvT hZ w4) hy (backOf (W := W) (hM []) hZ w4 w3 hf hl) hg hsize (argsL := argsL) (rest := rest) (lenOf hpd hpl) hstack hW hdg (fun _ _ => ⟨rfl, eT, hc, hs⟩)
  dsimp only [Pt.U, Pt.locs, Pt.cells, Pt.slots] at X' e1 e2 e3 st hQ
  subst e1 e2 e3
  exact ⟨T', L, v, X', hQ, st⟩
theorem own_callV (X : Stand p l e R s m args below meth c T locs cells slots) (hx : p.tables.exec = Jvm.exec) (hZ : Z.Warmed39 s.vm) {own C : String} {index : Nat} {y z : MethodName} {bytes : ByteArray} {maxL : Nat} {ret : Option FieldType} (hown : s.vm.findClass own = some m.cls)
    (w1 : (Jvm.Cond.methodLink own index y).before a0 Z = true) (w2 : (Jvm.Cond.declares y).before a0 Z = true) (w3 : (Jvm.Cond.selects y.cls y z).before a0 Z = true) (w3' : (Jvm.Cond.selects C y z).before a0 Z = true) (w4 : (Jvm.Cond.instanceMethod z).before a0 Z = true) (w5 : (Jvm.Cond.code z bytes maxL ret).before a0 Z = true) (w6 : (Jvm.Cond.initialized z.cls).before a0 Z = true) (hnf : NotFace s y)
    (hy : y.cls ≠ "java/lang/invoke/MethodHandle" ∧ y.cls ≠ "java/lang/invoke/VarHandle")
    {rm : Room} {a : Addr} {argsL rest : List Value} {Q : Option Value → Heap → List Loc → Prop} (hM : own_M l Z z bytes maxL ret rm (.ref a :: argsL).toArray h Q) (eT : T.heap = h) (E : Exa Z h a C) {g : JFrame} (hg : g.method = m) (hsize : g.locals.size = c.maxLocals) {ps : List FieldType} {r : Option FieldType} (hpd : parseMethodDescriptor y.desc = some ⟨ps, r⟩) (hpl : argsL.length = ps.length)
    (hstack : g.stack = argsL.reverse ++ .ref a :: rest) {W : Nat} (hW : 2 * g.monitorRoom + (rest.map fun v => v.category).sum ≤ W) (hdg : decode c.code g.pc = .ok (.invokevirtual index, 3)) (hf : rm.frames + 1 ≤ R.frames) (hl : W + (maxL + 11) + rm.locals ≤ R.locals) (hc : cells + rm.cells ≤ R.cells) (hs : slots + rm.slots ≤ R.slots) :
    ∃ (T' : State) (L : List Loc) (v : Option Value), Stand p l e R s m args below meth c T' (locs ++ L) (cells + rm.cells) (slots + rm.slots) ∧ Q v T'.heap L ∧ ∀ t, Steps p.tables e below (T'.setTop { g with pc := g.pc + 3, stack := v.toList ++ rest }) t → Steps p.tables e below (T.setTop g) t := by
  obtain ⟨cq, kq, qa, qb, qc⟩ := isOf hZ eT E
  obtain ⟨v, vm₁, ⟨T', L', k', n'⟩, -, X', ⟨L, hQ, e1, e2, e3⟩, st⟩ := X.virtualBack hx (y := y) (z := z) hown (mvT hZ w1) (mvT hZ w2) hnf (mvT hZ w3') (mvT hZ w4) hy (backOf (W := W) (hM []) hZ w5 w6 hf hl) qa qc hg hsize (Steps.refl _) (argsL := argsL) (rest := rest) (lenOf hpd hpl) hstack hW hdg (fun _ _ => ⟨rfl, eT, hc, hs⟩)
  dsimp only [Pt.U, Pt.locs, Pt.cells, Pt.slots] at X' e1 e2 e3 st hQ
  subst e1 e2 e3
  exact ⟨T', L, v, X', hQ, fun t k => st.trans k⟩
theorem own_callU (X : Stand p l e R s m args below meth c T locs cells slots) (hx : p.tables.exec = Jvm.exec) (hZ : Z.Warmed39 s.vm) {own C owner : String} {index : Nat} {y z : MethodName} {bytes : ByteArray} {maxL : Nat} {ret : Option FieldType} (hown : s.vm.findClass own = some m.cls)
    (w1 : (Jvm.Cond.methodLink own index y).before a0 Z = true) (w2 : (Jvm.Cond.sameMethod y.cls owner y.name y.desc).before a0 Z = true) (w2' : (Jvm.Cond.declares ⟨owner, y.name, y.desc⟩).before a0 Z = true) (w3 : (Jvm.Cond.selects C y z).before a0 Z = true) (w4 : (Jvm.Cond.instanceMethod z).before a0 Z = true) (w5 : (Jvm.Cond.code z bytes maxL ret).before a0 Z = true) (w6 : (Jvm.Cond.initialized z.cls).before a0 Z = true)
    (hy : owner ≠ "java/lang/invoke/MethodHandle" ∧ owner ≠ "java/lang/invoke/VarHandle")
    {rm : Room} {a : Addr} {argsL rest : List Value} {Q : Option Value → Heap → List Loc → Prop} (hM : own_M l Z z bytes maxL ret rm (.ref a :: argsL).toArray h Q) (eT : T.heap = h) (E : Exa Z h a C) {g : JFrame} (hg : g.method = m) (hsize : g.locals.size = c.maxLocals) {ps : List FieldType} {r : Option FieldType} (hpd : parseMethodDescriptor y.desc = some ⟨ps, r⟩) (hpl : argsL.length = ps.length)
    (hstack : g.stack = argsL.reverse ++ .ref a :: rest) {W : Nat} (hW : 2 * g.monitorRoom + (rest.map fun v => v.category).sum ≤ W) (hdg : decode c.code g.pc = .ok (.invokevirtual index, 3)) (hf : rm.frames + 1 ≤ R.frames) (hl : W + (maxL + 11) + rm.locals ≤ R.locals) (hc : cells + rm.cells ≤ R.cells) (hs : slots + rm.slots ≤ R.slots) :
    ∃ (T' : State) (L : List Loc) (v : Option Value), Stand p l e R s m args below meth c T' (locs ++ L) (cells + rm.cells) (slots + rm.slots) ∧ Q v T'.heap L ∧ ∀ t, Steps p.tables e below (T'.setTop { g with pc := g.pc + 3, stack := v.toList ++ rest }) t → Steps p.tables e below (T.setTop g) t := by
  obtain ⟨cq, kq, qa, qb, qc⟩ := isOf hZ eT E
  obtain ⟨v, vm₁, ⟨T', L', k', n'⟩, -, X', ⟨L, hQ, e1, e2, e3⟩, st⟩ := X.virtualBackUp hx (x := y) (y := z) hown (mvT hZ w1) (mvT hZ w2) (mvT hZ w2') hy (mvT hZ w3) (mvT hZ w4) (backOf (W := W) (hM []) hZ w5 w6 hf hl) qa qc hg hsize (Steps.refl _) (argsL := argsL) (rest := rest) (lenOf hpd hpl) hstack hW hdg (fun _ _ => ⟨rfl, eT, hc, hs⟩)
  dsimp only [Pt.U, Pt.locs, Pt.cells, Pt.slots] at X' e1 e2 e3 st hQ
  subst e1 e2 e3
  exact ⟨T', L, v, X', hQ, fun t k => st.trans k⟩
theorem own_neL {i K : Int32} {k : Int} (h : ¬ i = K) (hk : K.toInt = k) : k ≠ i.toInt := fun q => h (Int32.toInt_inj.mp (by rw [hk, q]))
abbrev own_cell (cA : ClassId) (vs : Array Value) : Cell := { cls := cA, slots := vs, vm := .none }
theorem own_in {cl : Cell} {j : Int32} {n : Nat} (hs : cl.slots.size = n) (hj : ¬ (j < 0 ∨ n ≤ j.toNatClampNeg)) : ¬ (j < 0 ∨ cl.slots.size ≤ j.toNatClampNeg) := by rw [hs]; exact hj
theorem own_cellAt {cl : Cell} {ty : FieldType} {a : Addr} (q : T.heap = h) (A : Arr Z h a cl ty) : T.heap[a]? = some cl := q ▸ A.1
theorem own_cat {v : Value} (q : v.isRef = true) : v.category = 1 := by rcases ref_cases q with rfl | ⟨a, rfl⟩ <;> rfl
theorem own_ext_refl (h : Heap) : Ext h h := ⟨Nat.le_refl _, fun _ _ q => q⟩
theorem own_ext_trans {h0 h h' : Heap} (E : Ext h0 h) (E' : Ext h h') : Ext h0 h' := ⟨Nat.le_trans E.1 E'.1, fun a c q => E'.2 a c (E.2 a c q)⟩
theorem own_ext_eq {h0 h h' : Heap} (E : Ext h0 h) (q : h' = h) : Ext h0 h' := q ▸ E
theorem own_acVF {v w : Value} (q : v = w) : Jvm.Free.XT.acmp .ne v w = false := by subst q; simp [Jvm.Free.XT.acmp]
theorem own_ext_wr {h0 h h' : Heap} {a : Addr} {sl : Nat} {v : Value} (E : Ext h0 h) (W : Wr h h' a sl v) (q : h0.size ≤ a) : Ext h0 h' := by
  refine ⟨by rw [W.size]; exact E.1, fun x cx hx => ?_⟩
  obtain ⟨c', e1, -, -, -, e5, -⟩ := wr_at W (E.2 x cx hx)
  rw [← e5 (Nat.ne_of_lt (Nat.lt_of_lt_of_le (Array.getElem?_eq_some_iff.mp hx).1 q))]
  exact e1
theorem own_fld {t : Term} {a : Addr} {C n d : String} {k : Int32} (ev : t.eval args Z none [] Z = some (.ref a)) (w : (Jvm.Cond.eq (.field t C n d) (.int k)).value args Z none Z [] = some true) : Fld Z Z.heap a C n d (.int k) := by
  obtain ⟨x, y, e1, e2, k1, k2⟩ := cmp_v (Or.inl w)
  obtain rfl : y = .int k := (Option.some.inj e2).symm
  obtain ⟨z, rfl⟩ := k2
  have hz := gotT (Jvm.Cond.eq_ints e1 e2) w
  rw [fld_at ev] at e1
  rw [hz] at e1
  exact Fld.start e1
theorem own_len {t : Term} {a : Addr} {cl : Cell} {ty : FieldType} {k : Int32} (ev : t.eval args Z none [] Z = some (.ref a)) (A : Arr Z Z.heap a cl ty) (w : (Jvm.Cond.eq (.length t) (.int k)).value args Z none Z [] = some true) : cl.slots.size = k.toInt.toNat := by
  obtain ⟨x, y, e1, e2, k1, k2⟩ := cmp_v (Or.inl w)
  obtain rfl : y = .int k := (Option.some.inj e2).symm
  obtain ⟨z, rfl⟩ := k2
  have hz := gotT (Jvm.Cond.eq_ints e1 e2) w
  have hA : Z.arrayAt? a = some cl := Arr.fin (Vm.Alike.refl _) A
  by_cases hl : cl.slots.size < 2 ^ 31
  · rw [len_f ev hA hl] at e1
    have h1 : cl.slots.size.toInt32 = z := Value.int.inj (Option.some.inj e1)
    rw [← hz, ← h1, len_toInt hl]
    rfl
  · simp [Term.eval, ev, hA, hl] at e1
theorem own_elemI {t : Term} {a : Addr} {cl : Cell} {ty : FieldType} {j k : Int32} (ev : t.eval args Z none [] Z = some (.ref a)) (A : Arr Z Z.heap a cl ty) (w : (Jvm.Cond.eq (.elem t (.int j)) (.int k)).value args Z none Z [] = some true) : cl.slots[j.toNatClampNeg]? = some (.int k) := by
  obtain ⟨x, y, e1, e2, k1, k2⟩ := cmp_v (Or.inl w)
  obtain rfl : y = .int k := (Option.some.inj e2).symm
  obtain ⟨z, rfl⟩ := k2
  have hz := gotT (Jvm.Cond.eq_ints e1 e2) w
  rw [← hz]
  exact (elem_in e1 ev (Term.int_eval j) A.1).2
theorem own_elemR {t u : Term} {a b : Addr} {cl : Cell} {ty : FieldType} {j : Int32} (ev : t.eval args Z none [] Z = some (.ref a)) (A : Arr Z Z.heap a cl ty) (ev' : u.eval args Z none [] Z = some (.ref b)) (w : (Jvm.Cond.eq (.elem t (.int j)) u).value args Z none Z [] = some true) : cl.slots[j.toNatClampNeg]? = some (.ref b) := by
  obtain ⟨x, y, e1, e2, k1, k2⟩ := cmp_v (Or.inl w)
  obtain rfl : y = .ref b := (Option.some.inj (ev'.symm.trans e2)).symm
  have hz := gotT (eq_R e1 e2 k2.2 rfl) w
  rw [← hz]
  exact (elem_in e1 ev (Term.int_eval j) A.1).2
theorem own_neV {a b : Int32} (h : a ≠ b) : (Value.int a) ≠ Value.int b := fun q => h (Value.int.inj q)
theorem own_acT {a b : Addr} (h : a = b) : Jvm.Free.XT.acmp .eq (.ref a) (.ref b) = true := by subst h; simp [Jvm.Free.XT.acmp]
theorem own_acF {a b : Addr} (h : a ≠ b) : Jvm.Free.XT.acmp .eq (.ref a) (.ref b) = false := by simp [Jvm.Free.XT.acmp, h]
theorem own_acnT {a b : Addr} (h : a ≠ b) : Jvm.Free.XT.acmp .ne (.ref a) (.ref b) = true := by simp [Jvm.Free.XT.acmp, h]
theorem own_acnF {a b : Addr} (h : a = b) : Jvm.Free.XT.acmp .ne (.ref a) (.ref b) = false := by subst h; simp [Jvm.Free.XT.acmp]
theorem own_mask (x : Int32) : 0 ≤ (x &&& 2147483647).toInt := by
  have := Jvm.Kit.i32_mask x 2147483647 (k := 31) (by decide) (by decide)
  omega
theorem own_rem (y n : Int32) (h0 : 0 ≤ y.toInt) (hn : 0 < n.toInt) : 0 ≤ (y % n).toInt ∧ (y % n).toInt < n.toInt := by
  rw [Int32.toInt_mod]
  exact ⟨Int.tmod_nonneg _ h0, by
    have := Int.tmod_lt_of_pos y.toInt hn
    exact this⟩
end Own
end Jvm.Pilot.@@N@@
namespace Jvm.Pilot.@@N@@
open Jvm Jvm.ClassFile Sem Op Lib Jvm.Free Jvm.Stand Jvm.LawKit Jvm.RoadKit Bundle Jvm.Pilot.@@N@@.Jvm.D
def own_B (Z : State) (h : Heap) (a_NOT_NULL a_NULLABLE a_NULL a_UNKNOWN : Addr) : Prop := Sta Z h "com/example/nullsight/nullsight/check/Nullness" "NOT_NULL" "Lcom/example/nullsight/nullsight/check/Nullness;" (.ref a_NOT_NULL) ∧ Exa Z h a_NOT_NULL "com/example/nullsight/nullsight/check/Nullness" ∧ Sta Z h "com/example/nullsight/nullsight/check/Nullness" "NULLABLE" "Lcom/example/nullsight/nullsight/check/Nullness;" (.ref a_NULLABLE) ∧ Exa Z h a_NULLABLE "com/example/nullsight/nullsight/check/Nullness" ∧ Sta Z h "com/example/nullsight/nullsight/check/Nullness" "NULL" "Lcom/example/nullsight/nullsight/check/Nullness;" (.ref a_NULL) ∧ Exa Z h a_NULL "com/example/nullsight/nullsight/check/Nullness" ∧ Fld Z h a_NOT_NULL "java/lang/Enum" "ordinal" "I" (.int (0 : Int32)) ∧ Fld Z h a_NULLABLE "java/lang/Enum" "ordinal" "I" (.int (3 : Int32)) ∧ Fld Z h a_NULL "java/lang/Enum" "ordinal" "I" (.int (2 : Int32)) ∧ Sta Z h "com/example/nullsight/nullsight/check/Nullness" "UNKNOWN" "Lcom/example/nullsight/nullsight/check/Nullness;" (.ref a_UNKNOWN) ∧ Exa Z h a_UNKNOWN "com/example/nullsight/nullsight/check/Nullness" ∧ Fld Z h a_UNKNOWN "java/lang/Enum" "ordinal" "I" (.int (1 : Int32))
theorem own_B_ext {Z : State} {h h' : Heap} {a_NOT_NULL a_NULLABLE a_NULL a_UNKNOWN : Addr} (E : Ext h h') (B : own_B Z h a_NOT_NULL a_NULLABLE a_NULL a_UNKNOWN) : own_B Z h' a_NOT_NULL a_NULLABLE a_NULL a_UNKNOWN := by
  obtain ⟨S_NOT_NULL, E_NOT_NULL, S_NULLABLE, E_NULLABLE, S_NULL, E_NULL, F_NOT_NULL_ordinal, F_NULLABLE_ordinal, F_NULL_ordinal, S_UNKNOWN, E_UNKNOWN, F_UNKNOWN_ordinal⟩ := B
  exact ⟨S_NOT_NULL.ext E, E_NOT_NULL.ext E, S_NULLABLE.ext E, E_NULLABLE.ext E, S_NULL.ext E, E_NULL.ext E, F_NOT_NULL_ordinal.ext E, F_NULLABLE_ordinal.ext E, F_NULL_ordinal.ext E, S_UNKNOWN.ext E, E_UNKNOWN.ext E, F_UNKNOWN_ordinal.ext E⟩
theorem own_l4 (z : Int32) (h0 : 0 ≤ z.toInt) (h1 : z.toInt ≤ 3) : z = (0 : Int32) ∨ z = (1 : Int32) ∨ z = (2 : Int32) ∨ z = (3 : Int32) := by
  simp only [← Int32.toInt_inj]
  change z.toInt = 0 ∨ z.toInt = 1 ∨ z.toInt = 2 ∨ z.toInt = 3
  omega
theorem own_l16 (z : Int32) (h0 : 0 ≤ z.toInt) (h1 : z.toInt ≤ 15) : z = (0 : Int32) ∨ z = (1 : Int32) ∨ z = (2 : Int32) ∨ z = (3 : Int32) ∨ z = (4 : Int32) ∨ z = (5 : Int32) ∨ z = (6 : Int32) ∨ z = (7 : Int32) ∨ z = (8 : Int32) ∨ z = (9 : Int32) ∨ z = (10 : Int32) ∨ z = (11 : Int32) ∨ z = (12 : Int32) ∨ z = (13 : Int32) ∨ z = (14 : Int32) ∨ z = (15 : Int32) := by
  simp only [← Int32.toInt_inj]
  change z.toInt = 0 ∨ z.toInt = 1 ∨ z.toInt = 2 ∨ z.toInt = 3 ∨ z.toInt = 4 ∨ z.toInt = 5 ∨ z.toInt = 6 ∨ z.toInt = 7 ∨ z.toInt = 8 ∨ z.toInt = 9 ∨ z.toInt = 10 ∨ z.toInt = 11 ∨ z.toInt = 12 ∨ z.toInt = 13 ∨ z.toInt = 14 ∨ z.toInt = 15
  omega
def own_pick (a_NOT_NULL a_NULLABLE a_NULL a_UNKNOWN : Addr) (k1 : Int32) : Addr := (if (k1 &&& (3 : Int32)) = (0 : Int32) then a_NOT_NULL else (if (k1 &&& (3 : Int32)) = (1 : Int32) then a_UNKNOWN else (if (k1 &&& (3 : Int32)) = (2 : Int32) then a_NULL else a_NULLABLE)))
theorem d1_0 : decode method_2_code 0 = .ok (.iload_n 0, 1) := by decide +kernel
theorem d1_1 : decode method_2_code 1 = .ok (.iconst 3, 1) := by decide +kernel
theorem d1_2 : decode method_2_code 2 = .ok (.iand, 1) := by decide +kernel
theorem d1_3 : decode method_2_code 3 = .ok (.istore_n 1, 1) := by decide +kernel
theorem d1_4 : decode method_2_code 4 = .ok (.iload_n 1, 1) := by decide +kernel
theorem d1_5 : decode method_2_code 5 = .ok (.ifCond .ne 7, 3) := by decide +kernel
theorem d1_8 : decode method_2_code 8 = .ok (.getstatic 7, 3) := by decide +kernel
theorem d1_11 : decode method_2_code 11 = .ok (.areturn, 1) := by decide +kernel
theorem d1_12 : decode method_2_code 12 = .ok (.iload_n 1, 1) := by decide +kernel
theorem d1_13 : decode method_2_code 13 = .ok (.iconst 1, 1) := by decide +kernel
theorem d1_14 : decode method_2_code 14 = .ok (.if_icmp .ne 7, 3) := by decide +kernel
theorem d1_17 : decode method_2_code 17 = .ok (.getstatic 13, 3) := by decide +kernel
theorem d1_20 : decode method_2_code 20 = .ok (.areturn, 1) := by decide +kernel
theorem d1_21 : decode method_2_code 21 = .ok (.iload_n 1, 1) := by decide +kernel
theorem d1_22 : decode method_2_code 22 = .ok (.iconst 2, 1) := by decide +kernel
theorem d1_23 : decode method_2_code 23 = .ok (.if_icmp .ne 7, 3) := by decide +kernel
theorem d1_26 : decode method_2_code 26 = .ok (.getstatic 16, 3) := by decide +kernel
theorem d1_29 : decode method_2_code 29 = .ok (.areturn, 1) := by decide +kernel
theorem d1_30 : decode method_2_code 30 = .ok (.getstatic 19, 3) := by decide +kernel
theorem d1_33 : decode method_2_code 33 = .ok (.areturn, 1) := by decide +kernel
theorem pn_1 : plainFor (⟨"com/example/nullsight/nullsight/check/NullnessMergePinLaw", "pick", "(I)Lcom/example/nullsight/nullsight/check/Nullness;"⟩ : MethodName) = true := by first | exact plainFor_of_name (by first | (simp [plainName, overriddenIn]; done) | decide +kernel) | decide +kernel
set_option maxRecDepth 65536 in
set_option maxHeartbeats 40000000 in
theorem c_pick (l : Launch) (Z : State) (a0 : Array Value) (hw : ∀ d ∈ tables_1, d.before a0 Z = true) (a_NOT_NULL a_NULLABLE a_NULL a_UNKNOWN : Addr) (k1 : Int32) (h0 : Heap) (B : own_B Z h0 a_NOT_NULL a_NULLABLE a_NULL a_UNKNOWN) :
    own_M l Z (⟨"com/example/nullsight/nullsight/check/NullnessMergePinLaw", "pick", "(I)Lcom/example/nullsight/nullsight/check/Nullness;"⟩ : MethodName) method_2_code 2 (some (.object "com/example/nullsight/nullsight/check/Nullness")) ⟨0, 0, 0, 0⟩ #[.int k1] h0 (fun v h L => v = some (.ref (own_pick a_NOT_NULL a_NULLABLE a_NULL a_UNKNOWN k1)) ∧ L = [] ∧ h = h0) := by
  refine own_body pn_1 ?_
  intro p e s m below meth c T0 hx hby hml hlk hown hret hnm hZ X0 e0
  replace hown : s.vm.findClass "com/example/nullsight/nullsight/check/NullnessMergePinLaw" = some m.cls := hown
  replace hml : c.maxLocals = 2 := hml
  obtain ⟨S_NOT_NULL, E_NOT_NULL, S_NULLABLE, E_NULLABLE, S_NULL, E_NULL, F_NOT_NULL_ordinal, F_NULLABLE_ordinal, F_NULL_ordinal, S_UNKNOWN, E_UNKNOWN, F_UNKNOWN_ordinal⟩ := id B
  have ef : entryFrame m #[.int k1] 2 = (mkF m 0 #[.val (.int k1), .unset] []) := by first | (simp [entryFrame, mkF, argsToLocals, Value.category]; done) | rfl
  rw [ef]
  refine own_go (fun t k => XS.iloadN X0.here hx rfl (hb hby d1_0) rfl k) ?_
  show own_G p e below _ T0 (mkF m 1 #[.val (.int k1), .unset] [(.int k1)])
  refine own_go (fun t k => XS.iconst X0.here hx rfl (hb hby d1_1) k) ?_
  show own_G p e below _ T0 (mkF m 2 #[.val (.int k1), .unset] [(.int (3 : Int32)), (.int k1)])
  refine own_go (fun t k => XS.iand X0.here hx rfl (hb hby d1_2) rfl k) ?_
  show own_G p e below _ T0 (mkF m 3 #[.val (.int k1), .unset] [(.int (k1 &&& (3 : Int32)))])
  refine own_go (fun t k => XS.istoreN X0.here hx rfl (hb hby d1_3) rfl (l' := #[.val (.int k1), .val (.int (k1 &&& (3 : Int32)))]) rfl k) ?_
  show own_G p e below _ T0 (mkF m 4 #[.val (.int k1), .val (.int (k1 &&& (3 : Int32)))] [])
  refine own_go (fun t k => XS.iloadN X0.here hx rfl (hb hby d1_4) rfl k) ?_
  show own_G p e below _ T0 (mkF m 5 #[.val (.int k1), .val (.int (k1 &&& (3 : Int32)))] [(.int (k1 &&& (3 : Int32)))])
  by_cases hc1 : (k1 &&& (3 : Int32)) = (0 : Int32)
  ·
    refine own_go (fun t k => XS.ifNo X0.here hx rfl (hb hby d1_5) rfl (Jvm.Free.XT.i0_ne_f hc1) k) ?_
    show own_G p e below _ T0 (mkF m 8 #[.val (.int k1), .val (.int (k1 &&& (3 : Int32)))] [])
    obtain ⟨T2, X2, e2, st2⟩ := getS X0 hx hZ hown (host := "") (hw _ (List.mem_of_getElem? (i := 4) rfl)) Via.refl e0 S_NOT_NULL (g := (mkF m 8 #[.val (.int k1), .val (.int (k1 &&& (3 : Int32)))] [])) rfl (hb hby d1_8)
    refine own_go st2 ?_
    show own_G p e below _ T2 (mkF m 11 #[.val (.int k1), .val (.int (k1 &&& (3 : Int32)))] [(.ref a_NOT_NULL)])
    exact own_retA X2 hx hlk hret rfl rfl (hb hby d1_11) (by decide) (by decide) ⟨congrArg some (congrArg Value.ref (Eq.symm (show (own_pick a_NOT_NULL a_NULLABLE a_NULL a_UNKNOWN k1) = a_NOT_NULL from (by unfold own_pick; rw [if_pos hc1])))), rfl, e2⟩
  ·
    refine own_go (fun t k => XS.ifYes X0.here hx rfl (pc0 := 5) (pc' := 12) rfl (hb hby d1_5) rfl (Jvm.Free.XT.i0_ne_t hc1) (by decide) (by decide) k) ?_
    show own_G p e below _ T0 (mkF m 12 #[.val (.int k1), .val (.int (k1 &&& (3 : Int32)))] [])
    refine own_go (fun t k => XS.iloadN X0.here hx rfl (hb hby d1_12) rfl k) ?_
    show own_G p e below _ T0 (mkF m 13 #[.val (.int k1), .val (.int (k1 &&& (3 : Int32)))] [(.int (k1 &&& (3 : Int32)))])
    refine own_go (fun t k => XS.iconst X0.here hx rfl (hb hby d1_13) k) ?_
    show own_G p e below _ T0 (mkF m 14 #[.val (.int k1), .val (.int (k1 &&& (3 : Int32)))] [(.int (1 : Int32)), (.int (k1 &&& (3 : Int32)))])
    by_cases hc3 : (k1 &&& (3 : Int32)) = (1 : Int32)
    ·
      refine own_go (fun t k => XS.icmpNo X0.here hx rfl (hb hby d1_14) rfl (Jvm.Free.XT.ii_ne_f hc3) k) ?_
      show own_G p e below _ T0 (mkF m 17 #[.val (.int k1), .val (.int (k1 &&& (3 : Int32)))] [])
      obtain ⟨T4, X4, e4, st4⟩ := getS X0 hx hZ hown (host := "") (hw _ (List.mem_of_getElem? (i := 18) rfl)) Via.refl e0 S_UNKNOWN (g := (mkF m 17 #[.val (.int k1), .val (.int (k1 &&& (3 : Int32)))] [])) rfl (hb hby d1_17)
      refine own_go st4 ?_
      show own_G p e below _ T4 (mkF m 20 #[.val (.int k1), .val (.int (k1 &&& (3 : Int32)))] [(.ref a_UNKNOWN)])
      exact own_retA X4 hx hlk hret rfl rfl (hb hby d1_20) (by decide) (by decide) ⟨congrArg some (congrArg Value.ref (Eq.symm (show (own_pick a_NOT_NULL a_NULLABLE a_NULL a_UNKNOWN k1) = a_UNKNOWN from (by unfold own_pick; rw [if_neg hc1, if_pos hc3])))), rfl, e4⟩
    ·
      refine own_go (fun t k => XS.icmpYes X0.here hx rfl (pc0 := 14) (pc' := 21) rfl (hb hby d1_14) rfl (Jvm.Free.XT.ii_ne_t hc3) (by decide) (by decide) k) ?_
      show own_G p e below _ T0 (mkF m 21 #[.val (.int k1), .val (.int (k1 &&& (3 : Int32)))] [])
      refine own_go (fun t k => XS.iloadN X0.here hx rfl (hb hby d1_21) rfl k) ?_
      show own_G p e below _ T0 (mkF m 22 #[.val (.int k1), .val (.int (k1 &&& (3 : Int32)))] [(.int (k1 &&& (3 : Int32)))])
      refine own_go (fun t k => XS.iconst X0.here hx rfl (hb hby d1_22) k) ?_
      show own_G p e below _ T0 (mkF m 23 #[.val (.int k1), .val (.int (k1 &&& (3 : Int32)))] [(.int (2 : Int32)), (.int (k1 &&& (3 : Int32)))])
      by_cases hc5 : (k1 &&& (3 : Int32)) = (2 : Int32)
      ·
        refine own_go (fun t k => XS.icmpNo X0.here hx rfl (hb hby d1_23) rfl (Jvm.Free.XT.ii_ne_f hc5) k) ?_
        show own_G p e below _ T0 (mkF m 26 #[.val (.int k1), .val (.int (k1 &&& (3 : Int32)))] [])
        obtain ⟨T6, X6, e6, st6⟩ := getS X0 hx hZ hown (host := "") (hw _ (List.mem_of_getElem? (i := 9) rfl)) Via.refl e0 S_NULL (g := (mkF m 26 #[.val (.int k1), .val (.int (k1 &&& (3 : Int32)))] [])) rfl (hb hby d1_26)
        refine own_go st6 ?_
        show own_G p e below _ T6 (mkF m 29 #[.val (.int k1), .val (.int (k1 &&& (3 : Int32)))] [(.ref a_NULL)])
        exact own_retA X6 hx hlk hret rfl rfl (hb hby d1_29) (by decide) (by decide) ⟨congrArg some (congrArg Value.ref (Eq.symm (show (own_pick a_NOT_NULL a_NULLABLE a_NULL a_UNKNOWN k1) = a_NULL from (by unfold own_pick; rw [if_neg hc1, if_neg hc3, if_pos hc5])))), rfl, e6⟩
      ·
        refine own_go (fun t k => XS.icmpYes X0.here hx rfl (pc0 := 23) (pc' := 30) rfl (hb hby d1_23) rfl (Jvm.Free.XT.ii_ne_t hc5) (by decide) (by decide) k) ?_
        show own_G p e below _ T0 (mkF m 30 #[.val (.int k1), .val (.int (k1 &&& (3 : Int32)))] [])
        obtain ⟨T7, X7, e7, st7⟩ := getS X0 hx hZ hown (host := "") (hw _ (List.mem_of_getElem? (i := 7) rfl)) Via.refl e0 S_NULLABLE (g := (mkF m 30 #[.val (.int k1), .val (.int (k1 &&& (3 : Int32)))] [])) rfl (hb hby d1_30)
        refine own_go st7 ?_
        show own_G p e below _ T7 (mkF m 33 #[.val (.int k1), .val (.int (k1 &&& (3 : Int32)))] [(.ref a_NULLABLE)])
        exact own_retA X7 hx hlk hret rfl rfl (hb hby d1_33) (by decide) (by decide) ⟨congrArg some (congrArg Value.ref (Eq.symm (show (own_pick a_NOT_NULL a_NULLABLE a_NULL a_UNKNOWN k1) = a_NULLABLE from (by unfold own_pick; rw [if_neg hc1, if_neg hc3, if_neg hc5])))), rfl, e7⟩
def own_merge (a_NOT_NULL a_NULLABLE a_NULL a_UNKNOWN : Addr) (a1 : Addr) (b1 : Addr) : Addr := (if a1 = b1 then a1 else (if a1 = a_NULLABLE then a_NULLABLE else (if b1 = a_NULLABLE then a_NULLABLE else (if a1 = a_NULL then a_NULLABLE else (if b1 = a_NULL then a_NULLABLE else a_UNKNOWN)))))
theorem d2_0 : decode prog_2_method_5_code 0 = .ok (.aload_n 0, 1) := by decide +kernel
theorem d2_1 : decode prog_2_method_5_code 1 = .ok (.aload_n 1, 1) := by decide +kernel
theorem d2_2 : decode prog_2_method_5_code 2 = .ok (.if_acmp .ne 8, 3) := by decide +kernel
theorem d2_5 : decode prog_2_method_5_code 5 = .ok (.aload_n 0, 1) := by decide +kernel
theorem d2_6 : decode prog_2_method_5_code 6 = .ok (.astore_n 2, 1) := by decide +kernel
theorem d2_7 : decode prog_2_method_5_code 7 = .ok (.goto 42, 3) := by decide +kernel
theorem d2_10 : decode prog_2_method_5_code 10 = .ok (.aload_n 0, 1) := by decide +kernel
theorem d2_11 : decode prog_2_method_5_code 11 = .ok (.getstatic 13, 3) := by decide +kernel
theorem d2_14 : decode prog_2_method_5_code 14 = .ok (.if_acmp .eq 24, 3) := by decide +kernel
theorem d2_17 : decode prog_2_method_5_code 17 = .ok (.aload_n 1, 1) := by decide +kernel
theorem d2_18 : decode prog_2_method_5_code 18 = .ok (.getstatic 13, 3) := by decide +kernel
theorem d2_21 : decode prog_2_method_5_code 21 = .ok (.if_acmp .eq 17, 3) := by decide +kernel
theorem d2_24 : decode prog_2_method_5_code 24 = .ok (.aload_n 0, 1) := by decide +kernel
theorem d2_25 : decode prog_2_method_5_code 25 = .ok (.getstatic 10, 3) := by decide +kernel
theorem d2_28 : decode prog_2_method_5_code 28 = .ok (.if_acmp .eq 10, 3) := by decide +kernel
theorem d2_31 : decode prog_2_method_5_code 31 = .ok (.aload_n 1, 1) := by decide +kernel
theorem d2_32 : decode prog_2_method_5_code 32 = .ok (.getstatic 10, 3) := by decide +kernel
theorem d2_35 : decode prog_2_method_5_code 35 = .ok (.if_acmp .ne 10, 3) := by decide +kernel
theorem d2_38 : decode prog_2_method_5_code 38 = .ok (.getstatic 13, 3) := by decide +kernel
theorem d2_41 : decode prog_2_method_5_code 41 = .ok (.astore_n 2, 1) := by decide +kernel
theorem d2_42 : decode prog_2_method_5_code 42 = .ok (.goto 7, 3) := by decide +kernel
theorem d2_45 : decode prog_2_method_5_code 45 = .ok (.getstatic 7, 3) := by decide +kernel
theorem d2_48 : decode prog_2_method_5_code 48 = .ok (.astore_n 2, 1) := by decide +kernel
theorem d2_49 : decode prog_2_method_5_code 49 = .ok (.aload_n 2, 1) := by decide +kernel
theorem d2_50 : decode prog_2_method_5_code 50 = .ok (.areturn, 1) := by decide +kernel
theorem pn_2 : plainFor (⟨"com/example/nullsight/nullsight/check/Nullness", "merge", "(Lcom/example/nullsight/nullsight/check/Nullness;)Lcom/example/nullsight/nullsight/check/Nullness;"⟩ : MethodName) = true := by first | exact plainFor_of_name (by first | (simp [plainName, overriddenIn]; done) | decide +kernel) | decide +kernel
set_option maxRecDepth 65536 in
set_option maxHeartbeats 40000000 in
theorem c_merge (l : Launch) (Z : State) (a0 : Array Value) (hw : ∀ d ∈ tables_1, d.before a0 Z = true) (a_NOT_NULL a_NULLABLE a_NULL a_UNKNOWN : Addr) (a1 : Addr) (b1 : Addr) (h0 : Heap) (B : own_B Z h0 a_NOT_NULL a_NULLABLE a_NULL a_UNKNOWN) :
    own_M l Z (⟨"com/example/nullsight/nullsight/check/Nullness", "merge", "(Lcom/example/nullsight/nullsight/check/Nullness;)Lcom/example/nullsight/nullsight/check/Nullness;"⟩ : MethodName) prog_2_method_5_code 3 (some (.object "com/example/nullsight/nullsight/check/Nullness")) ⟨0, 0, 0, 0⟩ #[.ref a1, .ref b1] h0 (fun v h L => v = some (.ref (own_merge a_NOT_NULL a_NULLABLE a_NULL a_UNKNOWN a1 b1)) ∧ L = [] ∧ h = h0) := by
  refine own_body pn_2 ?_
  intro p e s m below meth c T0 hx hby hml hlk hown hret hnm hZ X0 e0
  replace hown : s.vm.findClass "com/example/nullsight/nullsight/check/Nullness" = some m.cls := hown
  replace hml : c.maxLocals = 3 := hml
  obtain ⟨S_NOT_NULL, E_NOT_NULL, S_NULLABLE, E_NULLABLE, S_NULL, E_NULL, F_NOT_NULL_ordinal, F_NULLABLE_ordinal, F_NULL_ordinal, S_UNKNOWN, E_UNKNOWN, F_UNKNOWN_ordinal⟩ := id B
  have ef : entryFrame m #[.ref a1, .ref b1] 3 = (mkF m 0 #[.val (.ref a1), .val (.ref b1), .unset] []) := by first | (simp [entryFrame, mkF, argsToLocals, Value.category]; done) | rfl
  rw [ef]
  refine own_go (fun t k => XS.aloadN X0.here hx rfl (hb hby d2_0) rfl rfl k) ?_
  show own_G p e below _ T0 (mkF m 1 #[.val (.ref a1), .val (.ref b1), .unset] [(.ref a1)])
  refine own_go (fun t k => XS.aloadN X0.here hx rfl (hb hby d2_1) rfl rfl k) ?_
  show own_G p e below _ T0 (mkF m 2 #[.val (.ref a1), .val (.ref b1), .unset] [(.ref b1), (.ref a1)])
  by_cases hc1 : a1 = b1
  ·
    refine own_go (fun t k => Jvm.Free.XT.acmpNo X0.here hx rfl (hb hby d2_2) rfl rfl rfl (own_acnF hc1) k) ?_
    show own_G p e below _ T0 (mkF m 5 #[.val (.ref a1), .val (.ref b1), .unset] [])
    refine own_go (fun t k => XS.aloadN X0.here hx rfl (hb hby d2_5) rfl rfl k) ?_
    show own_G p e below _ T0 (mkF m 6 #[.val (.ref a1), .val (.ref b1), .unset] [(.ref a1)])
    refine own_go (fun t k => XS.astoreN X0.here hx rfl (hb hby d2_6) rfl rfl (l' := #[.val (.ref a1), .val (.ref b1), .val (.ref a1)]) rfl k) ?_
    show own_G p e below _ T0 (mkF m 7 #[.val (.ref a1), .val (.ref b1), .val (.ref a1)] [])
    refine own_go (fun t k => XS.goto X0.here hx rfl (pc0 := 7) (pc' := 49) rfl (hb hby d2_7) (by decide) (by decide) k) ?_
    show own_G p e below _ T0 (mkF m 49 #[.val (.ref a1), .val (.ref b1), .val (.ref a1)] [])
    refine own_go (fun t k => XS.aloadN X0.here hx rfl (hb hby d2_49) rfl rfl k) ?_
    show own_G p e below _ T0 (mkF m 50 #[.val (.ref a1), .val (.ref b1), .val (.ref a1)] [(.ref a1)])
    exact own_retA X0 hx hlk hret rfl rfl (hb hby d2_50) (by decide) (by decide) ⟨congrArg some (congrArg Value.ref (Eq.symm (show (own_merge a_NOT_NULL a_NULLABLE a_NULL a_UNKNOWN a1 b1) = a1 from (by unfold own_merge; rw [if_pos hc1])))), rfl, e0⟩
  ·
    refine own_go (fun t k => Jvm.Free.XT.acmpYes X0.here hx rfl (pc0 := 2) (pc' := 10) rfl (hb hby d2_2) rfl rfl rfl (own_acnT hc1) (by decide) (by decide) k) ?_
    show own_G p e below _ T0 (mkF m 10 #[.val (.ref a1), .val (.ref b1), .unset] [])
    refine own_go (fun t k => XS.aloadN X0.here hx rfl (hb hby d2_10) rfl rfl k) ?_
    show own_G p e below _ T0 (mkF m 11 #[.val (.ref a1), .val (.ref b1), .unset] [(.ref a1)])
    obtain ⟨T2, X2, e2, st2⟩ := getS X0 hx hZ hown (host := "") (hw _ (List.mem_of_getElem? (i := 17) rfl)) Via.refl e0 S_NULLABLE (g := (mkF m 11 #[.val (.ref a1), .val (.ref b1), .unset] [(.ref a1)])) rfl (hb hby d2_11)
    refine own_go st2 ?_
    show own_G p e below _ T2 (mkF m 14 #[.val (.ref a1), .val (.ref b1), .unset] [(.ref a_NULLABLE), (.ref a1)])
    by_cases hc3 : a1 = a_NULLABLE
    ·
      refine own_go (fun t k => Jvm.Free.XT.acmpYes X2.here hx rfl (pc0 := 14) (pc' := 38) rfl (hb hby d2_14) rfl rfl rfl (own_acT hc3) (by decide) (by decide) k) ?_
      show own_G p e below _ T2 (mkF m 38 #[.val (.ref a1), .val (.ref b1), .unset] [])
      obtain ⟨T4, X4, e4, st4⟩ := getS X2 hx hZ hown (host := "") (hw _ (List.mem_of_getElem? (i := 17) rfl)) Via.refl e2 S_NULLABLE (g := (mkF m 38 #[.val (.ref a1), .val (.ref b1), .unset] [])) rfl (hb hby d2_38)
      refine own_go st4 ?_
      show own_G p e below _ T4 (mkF m 41 #[.val (.ref a1), .val (.ref b1), .unset] [(.ref a_NULLABLE)])
      refine own_go (fun t k => XS.astoreN X4.here hx rfl (hb hby d2_41) rfl rfl (l' := #[.val (.ref a1), .val (.ref b1), .val (.ref a_NULLABLE)]) rfl k) ?_
      show own_G p e below _ T4 (mkF m 42 #[.val (.ref a1), .val (.ref b1), .val (.ref a_NULLABLE)] [])
      refine own_go (fun t k => XS.goto X4.here hx rfl (pc0 := 42) (pc' := 49) rfl (hb hby d2_42) (by decide) (by decide) k) ?_
      show own_G p e below _ T4 (mkF m 49 #[.val (.ref a1), .val (.ref b1), .val (.ref a_NULLABLE)] [])
      refine own_go (fun t k => XS.aloadN X4.here hx rfl (hb hby d2_49) rfl rfl k) ?_
      show own_G p e below _ T4 (mkF m 50 #[.val (.ref a1), .val (.ref b1), .val (.ref a_NULLABLE)] [(.ref a_NULLABLE)])
      exact own_retA X4 hx hlk hret rfl rfl (hb hby d2_50) (by decide) (by decide) ⟨congrArg some (congrArg Value.ref (Eq.symm (show (own_merge a_NOT_NULL a_NULLABLE a_NULL a_UNKNOWN a1 b1) = a_NULLABLE from (by unfold own_merge; rw [if_neg hc1, if_pos hc3])))), rfl, e4⟩
    ·
      refine own_go (fun t k => Jvm.Free.XT.acmpNo X2.here hx rfl (hb hby d2_14) rfl rfl rfl (own_acF hc3) k) ?_
      show own_G p e below _ T2 (mkF m 17 #[.val (.ref a1), .val (.ref b1), .unset] [])
      refine own_go (fun t k => XS.aloadN X2.here hx rfl (hb hby d2_17) rfl rfl k) ?_
      show own_G p e below _ T2 (mkF m 18 #[.val (.ref a1), .val (.ref b1), .unset] [(.ref b1)])
      obtain ⟨T5, X5, e5, st5⟩ := getS X2 hx hZ hown (host := "") (hw _ (List.mem_of_getElem? (i := 17) rfl)) Via.refl e2 S_NULLABLE (g := (mkF m 18 #[.val (.ref a1), .val (.ref b1), .unset] [(.ref b1)])) rfl (hb hby d2_18)
      refine own_go st5 ?_
      show own_G p e below _ T5 (mkF m 21 #[.val (.ref a1), .val (.ref b1), .unset] [(.ref a_NULLABLE), (.ref b1)])
      by_cases hc6 : b1 = a_NULLABLE
      ·
        refine own_go (fun t k => Jvm.Free.XT.acmpYes X5.here hx rfl (pc0 := 21) (pc' := 38) rfl (hb hby d2_21) rfl rfl rfl (own_acT hc6) (by decide) (by decide) k) ?_
        show own_G p e below _ T5 (mkF m 38 #[.val (.ref a1), .val (.ref b1), .unset] [])
        obtain ⟨T7, X7, e7, st7⟩ := getS X5 hx hZ hown (host := "") (hw _ (List.mem_of_getElem? (i := 17) rfl)) Via.refl e5 S_NULLABLE (g := (mkF m 38 #[.val (.ref a1), .val (.ref b1), .unset] [])) rfl (hb hby d2_38)
        refine own_go st7 ?_
        show own_G p e below _ T7 (mkF m 41 #[.val (.ref a1), .val (.ref b1), .unset] [(.ref a_NULLABLE)])
        refine own_go (fun t k => XS.astoreN X7.here hx rfl (hb hby d2_41) rfl rfl (l' := #[.val (.ref a1), .val (.ref b1), .val (.ref a_NULLABLE)]) rfl k) ?_
        show own_G p e below _ T7 (mkF m 42 #[.val (.ref a1), .val (.ref b1), .val (.ref a_NULLABLE)] [])
        refine own_go (fun t k => XS.goto X7.here hx rfl (pc0 := 42) (pc' := 49) rfl (hb hby d2_42) (by decide) (by decide) k) ?_
        show own_G p e below _ T7 (mkF m 49 #[.val (.ref a1), .val (.ref b1), .val (.ref a_NULLABLE)] [])
        refine own_go (fun t k => XS.aloadN X7.here hx rfl (hb hby d2_49) rfl rfl k) ?_
        show own_G p e below _ T7 (mkF m 50 #[.val (.ref a1), .val (.ref b1), .val (.ref a_NULLABLE)] [(.ref a_NULLABLE)])
        exact own_retA X7 hx hlk hret rfl rfl (hb hby d2_50) (by decide) (by decide) ⟨congrArg some (congrArg Value.ref (Eq.symm (show (own_merge a_NOT_NULL a_NULLABLE a_NULL a_UNKNOWN a1 b1) = a_NULLABLE from (by unfold own_merge; rw [if_neg hc1, if_neg hc3, if_pos hc6])))), rfl, e7⟩
      ·
        refine own_go (fun t k => Jvm.Free.XT.acmpNo X5.here hx rfl (hb hby d2_21) rfl rfl rfl (own_acF hc6) k) ?_
        show own_G p e below _ T5 (mkF m 24 #[.val (.ref a1), .val (.ref b1), .unset] [])
        refine own_go (fun t k => XS.aloadN X5.here hx rfl (hb hby d2_24) rfl rfl k) ?_
        show own_G p e below _ T5 (mkF m 25 #[.val (.ref a1), .val (.ref b1), .unset] [(.ref a1)])
        obtain ⟨T8, X8, e8, st8⟩ := getS X5 hx hZ hown (host := "") (hw _ (List.mem_of_getElem? (i := 20) rfl)) Via.refl e5 S_NULL (g := (mkF m 25 #[.val (.ref a1), .val (.ref b1), .unset] [(.ref a1)])) rfl (hb hby d2_25)
        refine own_go st8 ?_
        show own_G p e below _ T8 (mkF m 28 #[.val (.ref a1), .val (.ref b1), .unset] [(.ref a_NULL), (.ref a1)])
        by_cases hc9 : a1 = a_NULL
        ·
          refine own_go (fun t k => Jvm.Free.XT.acmpYes X8.here hx rfl (pc0 := 28) (pc' := 38) rfl (hb hby d2_28) rfl rfl rfl (own_acT hc9) (by decide) (by decide) k) ?_
          show own_G p e below _ T8 (mkF m 38 #[.val (.ref a1), .val (.ref b1), .unset] [])
          obtain ⟨T10, X10, e10, st10⟩ := getS X8 hx hZ hown (host := "") (hw _ (List.mem_of_getElem? (i := 17) rfl)) Via.refl e8 S_NULLABLE (g := (mkF m 38 #[.val (.ref a1), .val (.ref b1), .unset] [])) rfl (hb hby d2_38)
          refine own_go st10 ?_
          show own_G p e below _ T10 (mkF m 41 #[.val (.ref a1), .val (.ref b1), .unset] [(.ref a_NULLABLE)])
          refine own_go (fun t k => XS.astoreN X10.here hx rfl (hb hby d2_41) rfl rfl (l' := #[.val (.ref a1), .val (.ref b1), .val (.ref a_NULLABLE)]) rfl k) ?_
          show own_G p e below _ T10 (mkF m 42 #[.val (.ref a1), .val (.ref b1), .val (.ref a_NULLABLE)] [])
          refine own_go (fun t k => XS.goto X10.here hx rfl (pc0 := 42) (pc' := 49) rfl (hb hby d2_42) (by decide) (by decide) k) ?_
          show own_G p e below _ T10 (mkF m 49 #[.val (.ref a1), .val (.ref b1), .val (.ref a_NULLABLE)] [])
          refine own_go (fun t k => XS.aloadN X10.here hx rfl (hb hby d2_49) rfl rfl k) ?_
          show own_G p e below _ T10 (mkF m 50 #[.val (.ref a1), .val (.ref b1), .val (.ref a_NULLABLE)] [(.ref a_NULLABLE)])
          exact own_retA X10 hx hlk hret rfl rfl (hb hby d2_50) (by decide) (by decide) ⟨congrArg some (congrArg Value.ref (Eq.symm (show (own_merge a_NOT_NULL a_NULLABLE a_NULL a_UNKNOWN a1 b1) = a_NULLABLE from (by unfold own_merge; rw [if_neg hc1, if_neg hc3, if_neg hc6, if_pos hc9])))), rfl, e10⟩
        ·
          refine own_go (fun t k => Jvm.Free.XT.acmpNo X8.here hx rfl (hb hby d2_28) rfl rfl rfl (own_acF hc9) k) ?_
          show own_G p e below _ T8 (mkF m 31 #[.val (.ref a1), .val (.ref b1), .unset] [])
          refine own_go (fun t k => XS.aloadN X8.here hx rfl (hb hby d2_31) rfl rfl k) ?_
          show own_G p e below _ T8 (mkF m 32 #[.val (.ref a1), .val (.ref b1), .unset] [(.ref b1)])
          obtain ⟨T11, X11, e11, st11⟩ := getS X8 hx hZ hown (host := "") (hw _ (List.mem_of_getElem? (i := 20) rfl)) Via.refl e8 S_NULL (g := (mkF m 32 #[.val (.ref a1), .val (.ref b1), .unset] [(.ref b1)])) rfl (hb hby d2_32)
          refine own_go st11 ?_
          show own_G p e below _ T11 (mkF m 35 #[.val (.ref a1), .val (.ref b1), .unset] [(.ref a_NULL), (.ref b1)])
          by_cases hc12 : b1 = a_NULL
          ·
            refine own_go (fun t k => Jvm.Free.XT.acmpNo X11.here hx rfl (hb hby d2_35) rfl rfl rfl (own_acnF hc12) k) ?_
            show own_G p e below _ T11 (mkF m 38 #[.val (.ref a1), .val (.ref b1), .unset] [])
            obtain ⟨T13, X13, e13, st13⟩ := getS X11 hx hZ hown (host := "") (hw _ (List.mem_of_getElem? (i := 17) rfl)) Via.refl e11 S_NULLABLE (g := (mkF m 38 #[.val (.ref a1), .val (.ref b1), .unset] [])) rfl (hb hby d2_38)
            refine own_go st13 ?_
            show own_G p e below _ T13 (mkF m 41 #[.val (.ref a1), .val (.ref b1), .unset] [(.ref a_NULLABLE)])
            refine own_go (fun t k => XS.astoreN X13.here hx rfl (hb hby d2_41) rfl rfl (l' := #[.val (.ref a1), .val (.ref b1), .val (.ref a_NULLABLE)]) rfl k) ?_
            show own_G p e below _ T13 (mkF m 42 #[.val (.ref a1), .val (.ref b1), .val (.ref a_NULLABLE)] [])
            refine own_go (fun t k => XS.goto X13.here hx rfl (pc0 := 42) (pc' := 49) rfl (hb hby d2_42) (by decide) (by decide) k) ?_
            show own_G p e below _ T13 (mkF m 49 #[.val (.ref a1), .val (.ref b1), .val (.ref a_NULLABLE)] [])
            refine own_go (fun t k => XS.aloadN X13.here hx rfl (hb hby d2_49) rfl rfl k) ?_
            show own_G p e below _ T13 (mkF m 50 #[.val (.ref a1), .val (.ref b1), .val (.ref a_NULLABLE)] [(.ref a_NULLABLE)])
            exact own_retA X13 hx hlk hret rfl rfl (hb hby d2_50) (by decide) (by decide) ⟨congrArg some (congrArg Value.ref (Eq.symm (show (own_merge a_NOT_NULL a_NULLABLE a_NULL a_UNKNOWN a1 b1) = a_NULLABLE from (by unfold own_merge; rw [if_neg hc1, if_neg hc3, if_neg hc6, if_neg hc9, if_pos hc12])))), rfl, e13⟩
          ·
            refine own_go (fun t k => Jvm.Free.XT.acmpYes X11.here hx rfl (pc0 := 35) (pc' := 45) rfl (hb hby d2_35) rfl rfl rfl (own_acnT hc12) (by decide) (by decide) k) ?_
            show own_G p e below _ T11 (mkF m 45 #[.val (.ref a1), .val (.ref b1), .unset] [])
            obtain ⟨T14, X14, e14, st14⟩ := getS X11 hx hZ hown (host := "") (hw _ (List.mem_of_getElem? (i := 21) rfl)) Via.refl e11 S_UNKNOWN (g := (mkF m 45 #[.val (.ref a1), .val (.ref b1), .unset] [])) rfl (hb hby d2_45)
            refine own_go st14 ?_
            show own_G p e below _ T14 (mkF m 48 #[.val (.ref a1), .val (.ref b1), .unset] [(.ref a_UNKNOWN)])
            refine own_go (fun t k => XS.astoreN X14.here hx rfl (hb hby d2_48) rfl rfl (l' := #[.val (.ref a1), .val (.ref b1), .val (.ref a_UNKNOWN)]) rfl k) ?_
            show own_G p e below _ T14 (mkF m 49 #[.val (.ref a1), .val (.ref b1), .val (.ref a_UNKNOWN)] [])
            refine own_go (fun t k => XS.aloadN X14.here hx rfl (hb hby d2_49) rfl rfl k) ?_
            show own_G p e below _ T14 (mkF m 50 #[.val (.ref a1), .val (.ref b1), .val (.ref a_UNKNOWN)] [(.ref a_UNKNOWN)])
            exact own_retA X14 hx hlk hret rfl rfl (hb hby d2_50) (by decide) (by decide) ⟨congrArg some (congrArg Value.ref (Eq.symm (show (own_merge a_NOT_NULL a_NULLABLE a_NULL a_UNKNOWN a1 b1) = a_UNKNOWN from (by unfold own_merge; rw [if_neg hc1, if_neg hc3, if_neg hc6, if_neg hc9, if_neg hc12])))), rfl, e14⟩
theorem own_pick_exa {Z : State} {h : Heap} {a_NOT_NULL a_NULLABLE a_NULL a_UNKNOWN : Addr} (B : own_B Z h a_NOT_NULL a_NULLABLE a_NULL a_UNKNOWN) (k : Int32) : Exa Z h (own_pick a_NOT_NULL a_NULLABLE a_NULL a_UNKNOWN k) "com/example/nullsight/nullsight/check/Nullness" := by
  obtain ⟨S_NOT_NULL, E_NOT_NULL, S_NULLABLE, E_NULLABLE, S_NULL, E_NULL, F_NOT_NULL_ordinal, F_NULLABLE_ordinal, F_NULL_ordinal, S_UNKNOWN, E_UNKNOWN, F_UNKNOWN_ordinal⟩ := id B
  unfold own_pick
  repeat' split
  all_goals assumption
theorem own_merge_exa {Z : State} {h : Heap} {a_NOT_NULL a_NULLABLE a_NULL a_UNKNOWN : Addr} (B : own_B Z h a_NOT_NULL a_NULLABLE a_NULL a_UNKNOWN) {x : Addr} (E : Exa Z h x "com/example/nullsight/nullsight/check/Nullness") (y : Addr) : Exa Z h (own_merge a_NOT_NULL a_NULLABLE a_NULL a_UNKNOWN x y) "com/example/nullsight/nullsight/check/Nullness" := by
  obtain ⟨S_NOT_NULL, E_NOT_NULL, S_NULLABLE, E_NULLABLE, S_NULL, E_NULL, F_NOT_NULL_ordinal, F_NULLABLE_ordinal, F_NULL_ordinal, S_UNKNOWN, E_UNKNOWN, F_UNKNOWN_ordinal⟩ := id B
  unfold own_merge
  repeat' split
  all_goals assumption
theorem own_m3 (x : Int32) : 0 ≤ (x &&& 3).toInt ∧ (x &&& 3).toInt ≤ 3 := by
  have := Jvm.Kit.i32_mask x 3 (k := 2) (by decide) (by decide)
  omega
def own_tv (z : Int32) : Int32 := ([0, 1, 3, 3, 1, 1, 3, 3, 3, 3, 2, 3, 3, 3, 3, 3] : List Int32).getD z.toNatClampNeg 0
theorem own_tab (c : ClassId) (z : Int32) (h0 : 0 ≤ z.toInt) (h1 : z.toInt ≤ 15) : ¬ (z < 0 ∨ (own_cell c #[(.int (0 : Int32)), (.int (1 : Int32)), (.int (3 : Int32)), (.int (3 : Int32)), (.int (1 : Int32)), (.int (1 : Int32)), (.int (3 : Int32)), (.int (3 : Int32)), (.int (3 : Int32)), (.int (3 : Int32)), (.int (2 : Int32)), (.int (3 : Int32)), (.int (3 : Int32)), (.int (3 : Int32)), (.int (3 : Int32)), (.int (3 : Int32))]).slots.size ≤ z.toNatClampNeg) ∧ (own_cell c #[(.int (0 : Int32)), (.int (1 : Int32)), (.int (3 : Int32)), (.int (3 : Int32)), (.int (1 : Int32)), (.int (1 : Int32)), (.int (3 : Int32)), (.int (3 : Int32)), (.int (3 : Int32)), (.int (3 : Int32)), (.int (2 : Int32)), (.int (3 : Int32)), (.int (3 : Int32)), (.int (3 : Int32)), (.int (3 : Int32)), (.int (3 : Int32))]).slots[z.toNatClampNeg]? = some (.int (own_tv z)) := by
  rcases own_l16 z h0 h1 with rfl | rfl | rfl | rfl | rfl | rfl | rfl | rfl | rfl | rfl | rfl | rfl | rfl | rfl | rfl | rfl
  all_goals exact ⟨own_in (n := 16) rfl (by decide), rfl⟩
theorem own_ix (x y : Int32) : 0 ≤ ((x &&& 3) * 4 + (y &&& 3)).toInt ∧ ((x &&& 3) * 4 + (y &&& 3)).toInt ≤ 15 := by
  rcases own_l4 _ (own_m3 x).1 (own_m3 x).2 with h | h | h | h <;> rcases own_l4 _ (own_m3 y).1 (own_m3 y).2 with g | g | g | g <;> rw [h, g] <;> decide
theorem own_tm {Z : State} {h : Heap} {a_NOT_NULL a_NULLABLE a_NULL a_UNKNOWN : Addr} (B : own_B Z h a_NOT_NULL a_NULLABLE a_NULL a_UNKNOWN) : own_merge a_NOT_NULL a_NULLABLE a_NULL a_UNKNOWN a_NOT_NULL a_NOT_NULL = a_NOT_NULL ∧ own_merge a_NOT_NULL a_NULLABLE a_NULL a_UNKNOWN a_NOT_NULL a_UNKNOWN = a_UNKNOWN ∧ own_merge a_NOT_NULL a_NULLABLE a_NULL a_UNKNOWN a_NOT_NULL a_NULL = a_NULLABLE ∧ own_merge a_NOT_NULL a_NULLABLE a_NULL a_UNKNOWN a_NOT_NULL a_NULLABLE = a_NULLABLE ∧ own_merge a_NOT_NULL a_NULLABLE a_NULL a_UNKNOWN a_UNKNOWN a_NOT_NULL = a_UNKNOWN ∧ own_merge a_NOT_NULL a_NULLABLE a_NULL a_UNKNOWN a_UNKNOWN a_UNKNOWN = a_UNKNOWN ∧ own_merge a_NOT_NULL a_NULLABLE a_NULL a_UNKNOWN a_UNKNOWN a_NULL = a_NULLABLE ∧ own_merge a_NOT_NULL a_NULLABLE a_NULL a_UNKNOWN a_UNKNOWN a_NULLABLE = a_NULLABLE ∧ own_merge a_NOT_NULL a_NULLABLE a_NULL a_UNKNOWN a_NULL a_NOT_NULL = a_NULLABLE ∧ own_merge a_NOT_NULL a_NULLABLE a_NULL a_UNKNOWN a_NULL a_UNKNOWN = a_NULLABLE ∧ own_merge a_NOT_NULL a_NULLABLE a_NULL a_UNKNOWN a_NULL a_NULL = a_NULL ∧ own_merge a_NOT_NULL a_NULLABLE a_NULL a_UNKNOWN a_NULL a_NULLABLE = a_NULLABLE ∧ own_merge a_NOT_NULL a_NULLABLE a_NULL a_UNKNOWN a_NULLABLE a_NOT_NULL = a_NULLABLE ∧ own_merge a_NOT_NULL a_NULLABLE a_NULL a_UNKNOWN a_NULLABLE a_UNKNOWN = a_NULLABLE ∧ own_merge a_NOT_NULL a_NULLABLE a_NULL a_UNKNOWN a_NULLABLE a_NULL = a_NULLABLE ∧ own_merge a_NOT_NULL a_NULLABLE a_NULL a_UNKNOWN a_NULLABLE a_NULLABLE = a_NULLABLE := by
  obtain ⟨S_NOT_NULL, E_NOT_NULL, S_NULLABLE, E_NULLABLE, S_NULL, E_NULL, F_NOT_NULL_ordinal, F_NULLABLE_ordinal, F_NULL_ordinal, S_UNKNOWN, E_UNKNOWN, F_UNKNOWN_ordinal⟩ := id B
  exact ⟨(by unfold own_merge; rw [if_pos (rfl : a_NOT_NULL = a_NOT_NULL)]), (by unfold own_merge; rw [if_neg (Fld.ne F_NOT_NULL_ordinal F_UNKNOWN_ordinal (own_neV (by decide))), if_neg (Fld.ne F_NOT_NULL_ordinal F_NULLABLE_ordinal (own_neV (by decide))), if_neg (Fld.ne F_UNKNOWN_ordinal F_NULLABLE_ordinal (own_neV (by decide))), if_neg (Fld.ne F_NOT_NULL_ordinal F_NULL_ordinal (own_neV (by decide))), if_neg (Fld.ne F_UNKNOWN_ordinal F_NULL_ordinal (own_neV (by decide)))]), (by unfold own_merge; rw [if_neg (Fld.ne F_NOT_NULL_ordinal F_NULL_ordinal (own_neV (by decide))), if_neg (Fld.ne F_NOT_NULL_ordinal F_NULLABLE_ordinal (own_neV (by decide))), if_neg (Fld.ne F_NULL_ordinal F_NULLABLE_ordinal (own_neV (by decide))), if_neg (Fld.ne F_NOT_NULL_ordinal F_NULL_ordinal (own_neV (by decide))), if_pos (rfl : a_NULL = a_NULL)]), (by unfold own_merge; rw [if_neg (Fld.ne F_NOT_NULL_ordinal F_NULLABLE_ordinal (own_neV (by decide))), if_neg (Fld.ne F_NOT_NULL_ordinal F_NULLABLE_ordinal (own_neV (by decide))), if_pos (rfl : a_NULLABLE = a_NULLABLE)]), (by unfold own_merge; rw [if_neg (Fld.ne F_UNKNOWN_ordinal F_NOT_NULL_ordinal (own_neV (by decide))), if_neg (Fld.ne F_UNKNOWN_ordinal F_NULLABLE_ordinal (own_neV (by decide))), if_neg (Fld.ne F_NOT_NULL_ordinal F_NULLABLE_ordinal (own_neV (by decide))), if_neg (Fld.ne F_UNKNOWN_ordinal F_NULL_ordinal (own_neV (by decide))), if_neg (Fld.ne F_NOT_NULL_ordinal F_NULL_ordinal (own_neV (by decide)))]), (by unfold own_merge; rw [if_pos (rfl : a_UNKNOWN = a_UNKNOWN)]), (by unfold own_merge; rw [if_neg (Fld.ne F_UNKNOWN_ordinal F_NULL_ordinal (own_neV (by decide))), if_neg (Fld.ne F_UNKNOWN_ordinal F_NULLABLE_ordinal (own_neV (by decide))), if_neg (Fld.ne F_NULL_ordinal F_NULLABLE_ordinal (own_neV (by decide))), if_neg (Fld.ne F_UNKNOWN_ordinal F_NULL_ordinal (own_neV (by decide))), if_pos (rfl : a_NULL = a_NULL)]), (by unfold own_merge; rw [if_neg (Fld.ne F_UNKNOWN_ordinal F_NULLABLE_ordinal (own_neV (by decide))), if_neg (Fld.ne F_UNKNOWN_ordinal F_NULLABLE_ordinal (own_neV (by decide))), if_pos (rfl : a_NULLABLE = a_NULLABLE)]), (by unfold own_merge; rw [if_neg (Fld.ne F_NULL_ordinal F_NOT_NULL_ordinal (own_neV (by decide))), if_neg (Fld.ne F_NULL_ordinal F_NULLABLE_ordinal (own_neV (by decide))), if_neg (Fld.ne F_NOT_NULL_ordinal F_NULLABLE_ordinal (own_neV (by decide))), if_pos (rfl : a_NULL = a_NULL)]), (by unfold own_merge; rw [if_neg (Fld.ne F_NULL_ordinal F_UNKNOWN_ordinal (own_neV (by decide))), if_neg (Fld.ne F_NULL_ordinal F_NULLABLE_ordinal (own_neV (by decide))), if_neg (Fld.ne F_UNKNOWN_ordinal F_NULLABLE_ordinal (own_neV (by decide))), if_pos (rfl : a_NULL = a_NULL)]), (by unfold own_merge; rw [if_pos (rfl : a_NULL = a_NULL)]), (by unfold own_merge; rw [if_neg (Fld.ne F_NULL_ordinal F_NULLABLE_ordinal (own_neV (by decide))), if_neg (Fld.ne F_NULL_ordinal F_NULLABLE_ordinal (own_neV (by decide))), if_pos (rfl : a_NULLABLE = a_NULLABLE)]), (by unfold own_merge; rw [if_neg (Fld.ne F_NULLABLE_ordinal F_NOT_NULL_ordinal (own_neV (by decide))), if_pos (rfl : a_NULLABLE = a_NULLABLE)]), (by unfold own_merge; rw [if_neg (Fld.ne F_NULLABLE_ordinal F_UNKNOWN_ordinal (own_neV (by decide))), if_pos (rfl : a_NULLABLE = a_NULLABLE)]), (by unfold own_merge; rw [if_neg (Fld.ne F_NULLABLE_ordinal F_NULL_ordinal (own_neV (by decide))), if_pos (rfl : a_NULLABLE = a_NULLABLE)]), (by unfold own_merge; rw [if_pos (rfl : a_NULLABLE = a_NULLABLE)])⟩
theorem own_p4 (a_NOT_NULL a_NULLABLE a_NULL a_UNKNOWN : Addr) (k : Int32) : own_pick a_NOT_NULL a_NULLABLE a_NULL a_UNKNOWN k = a_NOT_NULL ∨ own_pick a_NOT_NULL a_NULLABLE a_NULL a_UNKNOWN k = a_UNKNOWN ∨ own_pick a_NOT_NULL a_NULLABLE a_NULL a_UNKNOWN k = a_NULL ∨ own_pick a_NOT_NULL a_NULLABLE a_NULL a_UNKNOWN k = a_NULLABLE := by
  unfold own_pick
  repeat' split
  all_goals simp
theorem own_L1 {Z : State} {h : Heap} {a_NOT_NULL a_NULLABLE a_NULL a_UNKNOWN : Addr} (B : own_B Z h a_NOT_NULL a_NULLABLE a_NULL a_UNKNOWN) (i j : Int32) : own_merge a_NOT_NULL a_NULLABLE a_NULL a_UNKNOWN (own_pick a_NOT_NULL a_NULLABLE a_NULL a_UNKNOWN (i &&& (3 : Int32))) (own_pick a_NOT_NULL a_NULLABLE a_NULL a_UNKNOWN (j &&& (3 : Int32))) = own_pick a_NOT_NULL a_NULLABLE a_NULL a_UNKNOWN (own_tv (((i &&& (3 : Int32)) * (4 : Int32)) + (j &&& (3 : Int32)))) := by
  obtain ⟨m_NOT_NULL_NOT_NULL, m_NOT_NULL_UNKNOWN, m_NOT_NULL_NULL, m_NOT_NULL_NULLABLE, m_UNKNOWN_NOT_NULL, m_UNKNOWN_UNKNOWN, m_UNKNOWN_NULL, m_UNKNOWN_NULLABLE, m_NULL_NOT_NULL, m_NULL_UNKNOWN, m_NULL_NULL, m_NULL_NULLABLE, m_NULLABLE_NOT_NULL, m_NULLABLE_UNKNOWN, m_NULLABLE_NULL, m_NULLABLE_NULLABLE⟩ := own_tm B
  rcases own_l4 _ (own_m3 i).1 (own_m3 i).2 with h | h | h | h <;> rcases own_l4 _ (own_m3 j).1 (own_m3 j).2 with g | g | g | g <;> rw [h, g]
  · exact m_NOT_NULL_NOT_NULL
  · exact m_NOT_NULL_UNKNOWN
  · exact m_NOT_NULL_NULL
  · exact m_NOT_NULL_NULLABLE
  · exact m_UNKNOWN_NOT_NULL
  · exact m_UNKNOWN_UNKNOWN
  · exact m_UNKNOWN_NULL
  · exact m_UNKNOWN_NULLABLE
  · exact m_NULL_NOT_NULL
  · exact m_NULL_UNKNOWN
  · exact m_NULL_NULL
  · exact m_NULL_NULLABLE
  · exact m_NULLABLE_NOT_NULL
  · exact m_NULLABLE_UNKNOWN
  · exact m_NULLABLE_NULL
  · exact m_NULLABLE_NULLABLE
theorem own_L2 {Z : State} {h : Heap} {a_NOT_NULL a_NULLABLE a_NULL a_UNKNOWN : Addr} (B : own_B Z h a_NOT_NULL a_NULLABLE a_NULL a_UNKNOWN) (i j : Int32) : own_merge a_NOT_NULL a_NULLABLE a_NULL a_UNKNOWN (own_pick a_NOT_NULL a_NULLABLE a_NULL a_UNKNOWN (j &&& (3 : Int32))) (own_pick a_NOT_NULL a_NULLABLE a_NULL a_UNKNOWN (i &&& (3 : Int32))) = own_pick a_NOT_NULL a_NULLABLE a_NULL a_UNKNOWN (own_tv (((i &&& (3 : Int32)) * (4 : Int32)) + (j &&& (3 : Int32)))) := by
  obtain ⟨m_NOT_NULL_NOT_NULL, m_NOT_NULL_UNKNOWN, m_NOT_NULL_NULL, m_NOT_NULL_NULLABLE, m_UNKNOWN_NOT_NULL, m_UNKNOWN_UNKNOWN, m_UNKNOWN_NULL, m_UNKNOWN_NULLABLE, m_NULL_NOT_NULL, m_NULL_UNKNOWN, m_NULL_NULL, m_NULL_NULLABLE, m_NULLABLE_NOT_NULL, m_NULLABLE_UNKNOWN, m_NULLABLE_NULL, m_NULLABLE_NULLABLE⟩ := own_tm B
  rcases own_l4 _ (own_m3 i).1 (own_m3 i).2 with h | h | h | h <;> rcases own_l4 _ (own_m3 j).1 (own_m3 j).2 with g | g | g | g <;> rw [h, g]
  · exact m_NOT_NULL_NOT_NULL
  · exact m_UNKNOWN_NOT_NULL
  · exact m_NULL_NOT_NULL
  · exact m_NULLABLE_NOT_NULL
  · exact m_NOT_NULL_UNKNOWN
  · exact m_UNKNOWN_UNKNOWN
  · exact m_NULL_UNKNOWN
  · exact m_NULLABLE_UNKNOWN
  · exact m_NOT_NULL_NULL
  · exact m_UNKNOWN_NULL
  · exact m_NULL_NULL
  · exact m_NULLABLE_NULL
  · exact m_NOT_NULL_NULLABLE
  · exact m_UNKNOWN_NULLABLE
  · exact m_NULL_NULLABLE
  · exact m_NULLABLE_NULLABLE
theorem own_L3 {Z : State} {h : Heap} {a_NOT_NULL a_NULLABLE a_NULL a_UNKNOWN : Addr} (B : own_B Z h a_NOT_NULL a_NULLABLE a_NULL a_UNKNOWN) (i j k : Int32) : own_merge a_NOT_NULL a_NULLABLE a_NULL a_UNKNOWN (own_merge a_NOT_NULL a_NULLABLE a_NULL a_UNKNOWN (own_pick a_NOT_NULL a_NULLABLE a_NULL a_UNKNOWN i) (own_pick a_NOT_NULL a_NULLABLE a_NULL a_UNKNOWN j)) (own_pick a_NOT_NULL a_NULLABLE a_NULL a_UNKNOWN k) = own_merge a_NOT_NULL a_NULLABLE a_NULL a_UNKNOWN (own_pick a_NOT_NULL a_NULLABLE a_NULL a_UNKNOWN i) (own_merge a_NOT_NULL a_NULLABLE a_NULL a_UNKNOWN (own_pick a_NOT_NULL a_NULLABLE a_NULL a_UNKNOWN j) (own_pick a_NOT_NULL a_NULLABLE a_NULL a_UNKNOWN k)) := by
  obtain ⟨m_NOT_NULL_NOT_NULL, m_NOT_NULL_UNKNOWN, m_NOT_NULL_NULL, m_NOT_NULL_NULLABLE, m_UNKNOWN_NOT_NULL, m_UNKNOWN_UNKNOWN, m_UNKNOWN_NULL, m_UNKNOWN_NULLABLE, m_NULL_NOT_NULL, m_NULL_UNKNOWN, m_NULL_NULL, m_NULL_NULLABLE, m_NULLABLE_NOT_NULL, m_NULLABLE_UNKNOWN, m_NULLABLE_NULL, m_NULLABLE_NULLABLE⟩ := own_tm B
  rcases own_p4 a_NOT_NULL a_NULLABLE a_NULL a_UNKNOWN i with h | h | h | h <;> rcases own_p4 a_NOT_NULL a_NULLABLE a_NULL a_UNKNOWN j with g | g | g | g <;> rcases own_p4 a_NOT_NULL a_NULLABLE a_NULL a_UNKNOWN k with f | f | f | f <;> rw [h, g, f]
  · simp only [m_NOT_NULL_NOT_NULL]
  · simp only [m_NOT_NULL_NOT_NULL, m_NOT_NULL_UNKNOWN]
  · simp only [m_NOT_NULL_NOT_NULL, m_NOT_NULL_NULL, m_NOT_NULL_NULLABLE]
  · simp only [m_NOT_NULL_NOT_NULL, m_NOT_NULL_NULLABLE]
  · simp only [m_NOT_NULL_UNKNOWN, m_UNKNOWN_NOT_NULL]
  · simp only [m_NOT_NULL_UNKNOWN, m_UNKNOWN_UNKNOWN]
  · simp only [m_NOT_NULL_NULLABLE, m_NOT_NULL_UNKNOWN, m_UNKNOWN_NULL]
  · simp only [m_NOT_NULL_NULLABLE, m_NOT_NULL_UNKNOWN, m_UNKNOWN_NULLABLE]
  · simp only [m_NOT_NULL_NULL, m_NOT_NULL_NULLABLE, m_NULLABLE_NOT_NULL, m_NULL_NOT_NULL]
  · simp only [m_NOT_NULL_NULL, m_NOT_NULL_NULLABLE, m_NULLABLE_UNKNOWN, m_NULL_UNKNOWN]
  · simp only [m_NOT_NULL_NULL, m_NULLABLE_NULL, m_NULL_NULL]
  · simp only [m_NOT_NULL_NULL, m_NOT_NULL_NULLABLE, m_NULLABLE_NULLABLE, m_NULL_NULLABLE]
  · simp only [m_NOT_NULL_NULLABLE, m_NULLABLE_NOT_NULL]
  · simp only [m_NOT_NULL_NULLABLE, m_NULLABLE_UNKNOWN]
  · simp only [m_NOT_NULL_NULLABLE, m_NULLABLE_NULL]
  · simp only [m_NOT_NULL_NULLABLE, m_NULLABLE_NULLABLE]
  · simp only [m_NOT_NULL_NOT_NULL, m_UNKNOWN_NOT_NULL]
  · simp only [m_NOT_NULL_UNKNOWN, m_UNKNOWN_NOT_NULL, m_UNKNOWN_UNKNOWN]
  · simp only [m_NOT_NULL_NULL, m_UNKNOWN_NOT_NULL, m_UNKNOWN_NULL, m_UNKNOWN_NULLABLE]
  · simp only [m_NOT_NULL_NULLABLE, m_UNKNOWN_NOT_NULL, m_UNKNOWN_NULLABLE]
  · simp only [m_UNKNOWN_NOT_NULL, m_UNKNOWN_UNKNOWN]
  · simp only [m_UNKNOWN_UNKNOWN]
  · simp only [m_UNKNOWN_NULL, m_UNKNOWN_NULLABLE, m_UNKNOWN_UNKNOWN]
  · simp only [m_UNKNOWN_NULLABLE, m_UNKNOWN_UNKNOWN]
  · simp only [m_NULLABLE_NOT_NULL, m_NULL_NOT_NULL, m_UNKNOWN_NULL, m_UNKNOWN_NULLABLE]
  · simp only [m_NULLABLE_UNKNOWN, m_NULL_UNKNOWN, m_UNKNOWN_NULL, m_UNKNOWN_NULLABLE]
  · simp only [m_NULLABLE_NULL, m_NULL_NULL, m_UNKNOWN_NULL]
  · simp only [m_NULLABLE_NULLABLE, m_NULL_NULLABLE, m_UNKNOWN_NULL, m_UNKNOWN_NULLABLE]
  · simp only [m_NULLABLE_NOT_NULL, m_UNKNOWN_NULLABLE]
  · simp only [m_NULLABLE_UNKNOWN, m_UNKNOWN_NULLABLE]
  · simp only [m_NULLABLE_NULL, m_UNKNOWN_NULLABLE]
  · simp only [m_NULLABLE_NULLABLE, m_UNKNOWN_NULLABLE]
  · simp only [m_NOT_NULL_NOT_NULL, m_NULLABLE_NOT_NULL, m_NULL_NOT_NULL]
  · simp only [m_NOT_NULL_UNKNOWN, m_NULLABLE_UNKNOWN, m_NULL_NOT_NULL, m_NULL_UNKNOWN]
  · simp only [m_NOT_NULL_NULL, m_NULLABLE_NULL, m_NULL_NOT_NULL, m_NULL_NULLABLE]
  · simp only [m_NOT_NULL_NULLABLE, m_NULLABLE_NULLABLE, m_NULL_NOT_NULL, m_NULL_NULLABLE]
  · simp only [m_NULLABLE_NOT_NULL, m_NULL_UNKNOWN, m_UNKNOWN_NOT_NULL]
  · simp only [m_NULLABLE_UNKNOWN, m_NULL_UNKNOWN, m_UNKNOWN_UNKNOWN]
  · simp only [m_NULLABLE_NULL, m_NULL_NULLABLE, m_NULL_UNKNOWN, m_UNKNOWN_NULL]
  · simp only [m_NULLABLE_NULLABLE, m_NULL_NULLABLE, m_NULL_UNKNOWN, m_UNKNOWN_NULLABLE]
  · simp only [m_NULL_NOT_NULL, m_NULL_NULL, m_NULL_NULLABLE]
  · simp only [m_NULL_NULL, m_NULL_NULLABLE, m_NULL_UNKNOWN]
  · simp only [m_NULL_NULL]
  · simp only [m_NULL_NULL, m_NULL_NULLABLE]
  · simp only [m_NULLABLE_NOT_NULL, m_NULL_NULLABLE]
  · simp only [m_NULLABLE_UNKNOWN, m_NULL_NULLABLE]
  · simp only [m_NULLABLE_NULL, m_NULL_NULLABLE]
  · simp only [m_NULLABLE_NULLABLE, m_NULL_NULLABLE]
  · simp only [m_NOT_NULL_NOT_NULL, m_NULLABLE_NOT_NULL]
  · simp only [m_NOT_NULL_UNKNOWN, m_NULLABLE_NOT_NULL, m_NULLABLE_UNKNOWN]
  · simp only [m_NOT_NULL_NULL, m_NULLABLE_NOT_NULL, m_NULLABLE_NULL, m_NULLABLE_NULLABLE]
  · simp only [m_NOT_NULL_NULLABLE, m_NULLABLE_NOT_NULL, m_NULLABLE_NULLABLE]
  · simp only [m_NULLABLE_NOT_NULL, m_NULLABLE_UNKNOWN, m_UNKNOWN_NOT_NULL]
  · simp only [m_NULLABLE_UNKNOWN, m_UNKNOWN_UNKNOWN]
  · simp only [m_NULLABLE_NULL, m_NULLABLE_NULLABLE, m_NULLABLE_UNKNOWN, m_UNKNOWN_NULL]
  · simp only [m_NULLABLE_NULLABLE, m_NULLABLE_UNKNOWN, m_UNKNOWN_NULLABLE]
  · simp only [m_NULLABLE_NOT_NULL, m_NULLABLE_NULL, m_NULLABLE_NULLABLE, m_NULL_NOT_NULL]
  · simp only [m_NULLABLE_NULL, m_NULLABLE_NULLABLE, m_NULLABLE_UNKNOWN, m_NULL_UNKNOWN]
  · simp only [m_NULLABLE_NULL, m_NULL_NULL]
  · simp only [m_NULLABLE_NULL, m_NULLABLE_NULLABLE, m_NULL_NULLABLE]
  · simp only [m_NULLABLE_NOT_NULL, m_NULLABLE_NULLABLE]
  · simp only [m_NULLABLE_NULLABLE, m_NULLABLE_UNKNOWN]
  · simp only [m_NULLABLE_NULL, m_NULLABLE_NULLABLE]
  · simp only [m_NULLABLE_NULLABLE]
theorem pn_0 : plainFor x = true := by first | exact plainFor_of_name (by first | (simp [plainName, overriddenIn]; done) | decide +kernel) | decide +kernel
set_option maxRecDepth 65536 in
set_option maxHeartbeats 40000000 in
theorem rm0 (l : Launch) (Z : State) (a0 : Array Value) (hw : ∀ d ∈ tables_1, d.before a0 Z = true) (i0 i1 i2 : Int32) (a_NOT_NULL a_NULLABLE a_NULL a_UNKNOWN : Addr) (h0 : Heap) (n0 : Nat) (Z0 : n0 ≤ h0.size) (B : own_B Z h0 a_NOT_NULL a_NULLABLE a_NULL a_UNKNOWN) :
    own_M l Z x code maxLocals ret room_1 #[.int i0, .int i1, .int i2] h0 (fun v h L => v = some (.int 1) ∧ Fr n0 L) := by
  refine own_body pn_0 ?_
  intro p e s m below meth c T0 hx hby hml hlk hown hret hnm hZ X0 e0
  replace hown : s.vm.findClass "com/example/nullsight/nullsight/check/NullnessMergePinLaw" = some m.cls := hown
  replace hml : c.maxLocals = 15 := hml
  replace hret : meth.sig.returnType = some .boolean := hret
  obtain ⟨S_NOT_NULL, E_NOT_NULL, S_NULLABLE, E_NULLABLE, S_NULL, E_NULL, F_NOT_NULL_ordinal, F_NULLABLE_ordinal, F_NULL_ordinal, S_UNKNOWN, E_UNKNOWN, F_UNKNOWN_ordinal⟩ := id B
  have N0 := Fr.nil n0
  have ef : entryFrame m #[.int i0, .int i1, .int i2] maxLocals = (mkF m 0 #[.val (.int i0), .val (.int i1), .val (.int i2), .unset, .unset, .unset, .unset, .unset, .unset, .unset, .unset, .unset, .unset, .unset, .unset] []) := by first | (simp [entryFrame, mkF, argsToLocals, Value.category, maxLocals]; done) | rfl
  rw [ef]
  refine own_go (fun t k => XS.iloadN X0.here hx rfl (hb hby at_0) rfl k) ?_
  show own_G p e below _ T0 (mkF m 1 #[.val (.int i0), .val (.int i1), .val (.int i2), .unset, .unset, .unset, .unset, .unset, .unset, .unset, .unset, .unset, .unset, .unset, .unset] [(.int i0)])
  refine own_go (fun t k => XS.iconst X0.here hx rfl (hb hby at_1) k) ?_
  show own_G p e below _ T0 (mkF m 2 #[.val (.int i0), .val (.int i1), .val (.int i2), .unset, .unset, .unset, .unset, .unset, .unset, .unset, .unset, .unset, .unset, .unset, .unset] [(.int (3 : Int32)), (.int i0)])
  refine own_go (fun t k => XS.iand X0.here hx rfl (hb hby at_2) rfl k) ?_
  show own_G p e below _ T0 (mkF m 3 #[.val (.int i0), .val (.int i1), .val (.int i2), .unset, .unset, .unset, .unset, .unset, .unset, .unset, .unset, .unset, .unset, .unset, .unset] [(.int (i0 &&& (3 : Int32)))])
  refine own_go (fun t k => XS.istoreN X0.here hx rfl (hb hby at_3) rfl (l' := #[.val (.int i0), .val (.int i1), .val (.int i2), .val (.int (i0 &&& (3 : Int32))), .unset, .unset, .unset, .unset, .unset, .unset, .unset, .unset, .unset, .unset, .unset]) rfl k) ?_
  show own_G p e below _ T0 (mkF m 4 #[.val (.int i0), .val (.int i1), .val (.int i2), .val (.int (i0 &&& (3 : Int32))), .unset, .unset, .unset, .unset, .unset, .unset, .unset, .unset, .unset, .unset, .unset] [])
  refine own_go (fun t k => XS.iloadN X0.here hx rfl (hb hby at_4) rfl k) ?_
  show own_G p e below _ T0 (mkF m 5 #[.val (.int i0), .val (.int i1), .val (.int i2), .val (.int (i0 &&& (3 : Int32))), .unset, .unset, .unset, .unset, .unset, .unset, .unset, .unset, .unset, .unset, .unset] [(.int i1)])
  refine own_go (fun t k => XS.iconst X0.here hx rfl (hb hby at_5) k) ?_
  show own_G p e below _ T0 (mkF m 6 #[.val (.int i0), .val (.int i1), .val (.int i2), .val (.int (i0 &&& (3 : Int32))), .unset, .unset, .unset, .unset, .unset, .unset, .unset, .unset, .unset, .unset, .unset] [(.int (3 : Int32)), (.int i1)])
  refine own_go (fun t k => XS.iand X0.here hx rfl (hb hby at_6) rfl k) ?_
  show own_G p e below _ T0 (mkF m 7 #[.val (.int i0), .val (.int i1), .val (.int i2), .val (.int (i0 &&& (3 : Int32))), .unset, .unset, .unset, .unset, .unset, .unset, .unset, .unset, .unset, .unset, .unset] [(.int (i1 &&& (3 : Int32)))])
  refine own_go (fun t k => XS.istore X0.here hx rfl (hb hby at_7) rfl (l' := #[.val (.int i0), .val (.int i1), .val (.int i2), .val (.int (i0 &&& (3 : Int32))), .val (.int (i1 &&& (3 : Int32))), .unset, .unset, .unset, .unset, .unset, .unset, .unset, .unset, .unset, .unset]) rfl k) ?_
  show own_G p e below _ T0 (mkF m 9 #[.val (.int i0), .val (.int i1), .val (.int i2), .val (.int (i0 &&& (3 : Int32))), .val (.int (i1 &&& (3 : Int32))), .unset, .unset, .unset, .unset, .unset, .unset, .unset, .unset, .unset, .unset] [])
  refine own_go (fun t k => XS.iloadN X0.here hx rfl (hb hby at_9) rfl k) ?_
  show own_G p e below _ T0 (mkF m 10 #[.val (.int i0), .val (.int i1), .val (.int i2), .val (.int (i0 &&& (3 : Int32))), .val (.int (i1 &&& (3 : Int32))), .unset, .unset, .unset, .unset, .unset, .unset, .unset, .unset, .unset, .unset] [(.int (i0 &&& (3 : Int32)))])
  obtain ⟨T1, L1, v1, X1, ⟨rfl, rfl, q1⟩, st1⟩ := own_callS X0 hx hZ (y := (⟨"com/example/nullsight/nullsight/check/NullnessMergePinLaw", "pick", "(I)Lcom/example/nullsight/nullsight/check/Nullness;"⟩ : MethodName)) hown (hw _ (List.mem_of_getElem? (i := 0) rfl)) (hw _ (List.mem_of_getElem? (i := 1) rfl)) (hw _ (List.mem_of_getElem? (i := 2) rfl)) (hw _ (List.mem_of_getElem? (i := 3) rfl)) (by decide) (c_pick l Z a0 hw a_NOT_NULL a_NULLABLE a_NULL a_UNKNOWN (i0 &&& (3 : Int32)) h0 B ) e0 (argsL := [(.int (i0 &&& (3 : Int32)))]) (rest := []) (g := (mkF m 10 #[.val (.int i0), .val (.int i1), .val (.int i2), .val (.int (i0 &&& (3 : Int32))), .val (.int (i1 &&& (3 : Int32))), .unset, .unset, .unset, .unset, .unset, .unset, .unset, .unset, .unset, .unset] [(.int (i0 &&& (3 : Int32)))])) rfl (by rw [hml]; rfl) (ps := [.int]) (r := (some (.object "com/example/nullsight/nullsight/check/Nullness"))) (by decide +kernel) rfl rfl (W := 0) (by show 2 * 0 + _ ≤ _; exact Nat.le_of_eq rfl) (hb hby at_10) (by decide) (by decide) (by decide) (by decide)
  have N1 := Fr.app N0 (Fr.nil n0)
  refine own_go st1 ?_
  show own_G p e below _ T1 (mkF m 13 #[.val (.int i0), .val (.int i1), .val (.int i2), .val (.int (i0 &&& (3 : Int32))), .val (.int (i1 &&& (3 : Int32))), .unset, .unset, .unset, .unset, .unset, .unset, .unset, .unset, .unset, .unset] [(.ref (own_pick a_NOT_NULL a_NULLABLE a_NULL a_UNKNOWN (i0 &&& (3 : Int32))))])
  refine own_go (fun t k => XS.astore X1.here hx rfl (hb hby at_13) rfl rfl (l' := #[.val (.int i0), .val (.int i1), .val (.int i2), .val (.int (i0 &&& (3 : Int32))), .val (.int (i1 &&& (3 : Int32))), .val (.ref (own_pick a_NOT_NULL a_NULLABLE a_NULL a_UNKNOWN (i0 &&& (3 : Int32)))), .unset, .unset, .unset, .unset, .unset, .unset, .unset, .unset, .unset]) rfl k) ?_
  show own_G p e below _ T1 (mkF m 15 #[.val (.int i0), .val (.int i1), .val (.int i2), .val (.int (i0 &&& (3 : Int32))), .val (.int (i1 &&& (3 : Int32))), .val (.ref (own_pick a_NOT_NULL a_NULLABLE a_NULL a_UNKNOWN (i0 &&& (3 : Int32)))), .unset, .unset, .unset, .unset, .unset, .unset, .unset, .unset, .unset] [])
  refine own_go (fun t k => XS.iload X1.here hx rfl (hb hby at_15) rfl k) ?_
  show own_G p e below _ T1 (mkF m 17 #[.val (.int i0), .val (.int i1), .val (.int i2), .val (.int (i0 &&& (3 : Int32))), .val (.int (i1 &&& (3 : Int32))), .val (.ref (own_pick a_NOT_NULL a_NULLABLE a_NULL a_UNKNOWN (i0 &&& (3 : Int32)))), .unset, .unset, .unset, .unset, .unset, .unset, .unset, .unset, .unset] [(.int (i1 &&& (3 : Int32)))])
  obtain ⟨T2, L2, v2, X2, ⟨rfl, rfl, q2⟩, st2⟩ := own_callS X1 hx hZ (y := (⟨"com/example/nullsight/nullsight/check/NullnessMergePinLaw", "pick", "(I)Lcom/example/nullsight/nullsight/check/Nullness;"⟩ : MethodName)) hown (hw _ (List.mem_of_getElem? (i := 0) rfl)) (hw _ (List.mem_of_getElem? (i := 1) rfl)) (hw _ (List.mem_of_getElem? (i := 2) rfl)) (hw _ (List.mem_of_getElem? (i := 3) rfl)) (by decide) (c_pick l Z a0 hw a_NOT_NULL a_NULLABLE a_NULL a_UNKNOWN (i1 &&& (3 : Int32)) h0 B ) q1 (argsL := [(.int (i1 &&& (3 : Int32)))]) (rest := []) (g := (mkF m 17 #[.val (.int i0), .val (.int i1), .val (.int i2), .val (.int (i0 &&& (3 : Int32))), .val (.int (i1 &&& (3 : Int32))), .val (.ref (own_pick a_NOT_NULL a_NULLABLE a_NULL a_UNKNOWN (i0 &&& (3 : Int32)))), .unset, .unset, .unset, .unset, .unset, .unset, .unset, .unset, .unset] [(.int (i1 &&& (3 : Int32)))])) rfl (by rw [hml]; rfl) (ps := [.int]) (r := (some (.object "com/example/nullsight/nullsight/check/Nullness"))) (by decide +kernel) rfl rfl (W := 0) (by show 2 * 0 + _ ≤ _; exact Nat.le_of_eq rfl) (hb hby at_17) (by decide) (by decide) (by decide) (by decide)
  have N2 := Fr.app N1 (Fr.nil n0)
  refine own_go st2 ?_
  show own_G p e below _ T2 (mkF m 20 #[.val (.int i0), .val (.int i1), .val (.int i2), .val (.int (i0 &&& (3 : Int32))), .val (.int (i1 &&& (3 : Int32))), .val (.ref (own_pick a_NOT_NULL a_NULLABLE a_NULL a_UNKNOWN (i0 &&& (3 : Int32)))), .unset, .unset, .unset, .unset, .unset, .unset, .unset, .unset, .unset] [(.ref (own_pick a_NOT_NULL a_NULLABLE a_NULL a_UNKNOWN (i1 &&& (3 : Int32))))])
  refine own_go (fun t k => XS.astore X2.here hx rfl (hb hby at_20) rfl rfl (l' := #[.val (.int i0), .val (.int i1), .val (.int i2), .val (.int (i0 &&& (3 : Int32))), .val (.int (i1 &&& (3 : Int32))), .val (.ref (own_pick a_NOT_NULL a_NULLABLE a_NULL a_UNKNOWN (i0 &&& (3 : Int32)))), .val (.ref (own_pick a_NOT_NULL a_NULLABLE a_NULL a_UNKNOWN (i1 &&& (3 : Int32)))), .unset, .unset, .unset, .unset, .unset, .unset, .unset, .unset]) rfl k) ?_
  show own_G p e below _ T2 (mkF m 22 #[.val (.int i0), .val (.int i1), .val (.int i2), .val (.int (i0 &&& (3 : Int32))), .val (.int (i1 &&& (3 : Int32))), .val (.ref (own_pick a_NOT_NULL a_NULLABLE a_NULL a_UNKNOWN (i0 &&& (3 : Int32)))), .val (.ref (own_pick a_NOT_NULL a_NULLABLE a_NULL a_UNKNOWN (i1 &&& (3 : Int32)))), .unset, .unset, .unset, .unset, .unset, .unset, .unset, .unset] [])
  refine own_go (fun t k => XS.iloadN X2.here hx rfl (hb hby at_22) rfl k) ?_
  show own_G p e below _ T2 (mkF m 23 #[.val (.int i0), .val (.int i1), .val (.int i2), .val (.int (i0 &&& (3 : Int32))), .val (.int (i1 &&& (3 : Int32))), .val (.ref (own_pick a_NOT_NULL a_NULLABLE a_NULL a_UNKNOWN (i0 &&& (3 : Int32)))), .val (.ref (own_pick a_NOT_NULL a_NULLABLE a_NULL a_UNKNOWN (i1 &&& (3 : Int32)))), .unset, .unset, .unset, .unset, .unset, .unset, .unset, .unset] [(.int i2)])
  obtain ⟨T3, L3, v3, X3, ⟨rfl, rfl, q3⟩, st3⟩ := own_callS X2 hx hZ (y := (⟨"com/example/nullsight/nullsight/check/NullnessMergePinLaw", "pick", "(I)Lcom/example/nullsight/nullsight/check/Nullness;"⟩ : MethodName)) hown (hw _ (List.mem_of_getElem? (i := 0) rfl)) (hw _ (List.mem_of_getElem? (i := 1) rfl)) (hw _ (List.mem_of_getElem? (i := 2) rfl)) (hw _ (List.mem_of_getElem? (i := 3) rfl)) (by decide) (c_pick l Z a0 hw a_NOT_NULL a_NULLABLE a_NULL a_UNKNOWN i2 h0 B ) q2 (argsL := [(.int i2)]) (rest := []) (g := (mkF m 23 #[.val (.int i0), .val (.int i1), .val (.int i2), .val (.int (i0 &&& (3 : Int32))), .val (.int (i1 &&& (3 : Int32))), .val (.ref (own_pick a_NOT_NULL a_NULLABLE a_NULL a_UNKNOWN (i0 &&& (3 : Int32)))), .val (.ref (own_pick a_NOT_NULL a_NULLABLE a_NULL a_UNKNOWN (i1 &&& (3 : Int32)))), .unset, .unset, .unset, .unset, .unset, .unset, .unset, .unset] [(.int i2)])) rfl (by rw [hml]; rfl) (ps := [.int]) (r := (some (.object "com/example/nullsight/nullsight/check/Nullness"))) (by decide +kernel) rfl rfl (W := 0) (by show 2 * 0 + _ ≤ _; exact Nat.le_of_eq rfl) (hb hby at_23) (by decide) (by decide) (by decide) (by decide)
  have N3 := Fr.app N2 (Fr.nil n0)
  refine own_go st3 ?_
  show own_G p e below _ T3 (mkF m 26 #[.val (.int i0), .val (.int i1), .val (.int i2), .val (.int (i0 &&& (3 : Int32))), .val (.int (i1 &&& (3 : Int32))), .val (.ref (own_pick a_NOT_NULL a_NULLABLE a_NULL a_UNKNOWN (i0 &&& (3 : Int32)))), .val (.ref (own_pick a_NOT_NULL a_NULLABLE a_NULL a_UNKNOWN (i1 &&& (3 : Int32)))), .unset, .unset, .unset, .unset, .unset, .unset, .unset, .unset] [(.ref (own_pick a_NOT_NULL a_NULLABLE a_NULL a_UNKNOWN i2))])
  refine own_go (fun t k => XS.astore X3.here hx rfl (hb hby at_26) rfl rfl (l' := #[.val (.int i0), .val (.int i1), .val (.int i2), .val (.int (i0 &&& (3 : Int32))), .val (.int (i1 &&& (3 : Int32))), .val (.ref (own_pick a_NOT_NULL a_NULLABLE a_NULL a_UNKNOWN (i0 &&& (3 : Int32)))), .val (.ref (own_pick a_NOT_NULL a_NULLABLE a_NULL a_UNKNOWN (i1 &&& (3 : Int32)))), .val (.ref (own_pick a_NOT_NULL a_NULLABLE a_NULL a_UNKNOWN i2)), .unset, .unset, .unset, .unset, .unset, .unset, .unset]) rfl k) ?_
  show own_G p e below _ T3 (mkF m 28 #[.val (.int i0), .val (.int i1), .val (.int i2), .val (.int (i0 &&& (3 : Int32))), .val (.int (i1 &&& (3 : Int32))), .val (.ref (own_pick a_NOT_NULL a_NULLABLE a_NULL a_UNKNOWN (i0 &&& (3 : Int32)))), .val (.ref (own_pick a_NOT_NULL a_NULLABLE a_NULL a_UNKNOWN (i1 &&& (3 : Int32)))), .val (.ref (own_pick a_NOT_NULL a_NULLABLE a_NULL a_UNKNOWN i2)), .unset, .unset, .unset, .unset, .unset, .unset, .unset] [])
  refine own_go (fun t k => XS.bipush X3.here hx rfl (hb hby at_28) k) ?_
  show own_G p e below _ T3 (mkF m 30 #[.val (.int i0), .val (.int i1), .val (.int i2), .val (.int (i0 &&& (3 : Int32))), .val (.int (i1 &&& (3 : Int32))), .val (.ref (own_pick a_NOT_NULL a_NULLABLE a_NULL a_UNKNOWN (i0 &&& (3 : Int32)))), .val (.ref (own_pick a_NOT_NULL a_NULLABLE a_NULL a_UNKNOWN (i1 &&& (3 : Int32)))), .val (.ref (own_pick a_NOT_NULL a_NULLABLE a_NULL a_UNKNOWN i2)), .unset, .unset, .unset, .unset, .unset, .unset, .unset] [(.int (16 : Int32))])
  obtain ⟨T4, h4, c4, X4, e4, E4, A4, st4⟩ := newP X3 hx hZ (hw _ (List.mem_of_getElem? (i := 11) rfl)) q3 (g := (mkF m 30 #[.val (.int i0), .val (.int i1), .val (.int i2), .val (.int (i0 &&& (3 : Int32))), .val (.int (i1 &&& (3 : Int32))), .val (.ref (own_pick a_NOT_NULL a_NULLABLE a_NULL a_UNKNOWN (i0 &&& (3 : Int32)))), .val (.ref (own_pick a_NOT_NULL a_NULLABLE a_NULL a_UNKNOWN (i1 &&& (3 : Int32)))), .val (.ref (own_pick a_NOT_NULL a_NULLABLE a_NULL a_UNKNOWN i2)), .unset, .unset, .unset, .unset, .unset, .unset, .unset] [(.int (16 : Int32))])) rfl (hb hby at_30) rfl (by decide) (cap := 16) (by decide) (by decide) (by decide) (by decide)
  obtain ⟨a4, g4⟩ : ∃ z, z = h0.size := ⟨_, rfl⟩
  rw [← g4] at A4 st4
  replace A4 : Arr Z h4 a4 (own_cell c4 #[(.int 0), (.int 0), (.int 0), (.int 0), (.int 0), (.int 0), (.int 0), (.int 0), (.int 0), (.int 0), (.int 0), (.int 0), (.int 0), (.int 0), (.int 0), (.int 0)]) .int := A4
  have x4 : Ext h0 h4 := E4
  have j4 : h0.size ≤ a4 := Nat.le_of_eq g4.symm
  refine own_go st4 ?_
  show own_G p e below _ T4 (mkF m 32 #[.val (.int i0), .val (.int i1), .val (.int i2), .val (.int (i0 &&& (3 : Int32))), .val (.int (i1 &&& (3 : Int32))), .val (.ref (own_pick a_NOT_NULL a_NULLABLE a_NULL a_UNKNOWN (i0 &&& (3 : Int32)))), .val (.ref (own_pick a_NOT_NULL a_NULLABLE a_NULL a_UNKNOWN (i1 &&& (3 : Int32)))), .val (.ref (own_pick a_NOT_NULL a_NULLABLE a_NULL a_UNKNOWN i2)), .unset, .unset, .unset, .unset, .unset, .unset, .unset] [(.ref a4)])
  refine own_go (fun t k => XS.dup X4.here hx rfl (hb hby at_32) rfl rfl k) ?_
  show own_G p e below _ T4 (mkF m 33 #[.val (.int i0), .val (.int i1), .val (.int i2), .val (.int (i0 &&& (3 : Int32))), .val (.int (i1 &&& (3 : Int32))), .val (.ref (own_pick a_NOT_NULL a_NULLABLE a_NULL a_UNKNOWN (i0 &&& (3 : Int32)))), .val (.ref (own_pick a_NOT_NULL a_NULLABLE a_NULL a_UNKNOWN (i1 &&& (3 : Int32)))), .val (.ref (own_pick a_NOT_NULL a_NULLABLE a_NULL a_UNKNOWN i2)), .unset, .unset, .unset, .unset, .unset, .unset, .unset] [(.ref a4), (.ref a4)])
  refine own_go (fun t k => XS.iconst X4.here hx rfl (hb hby at_33) k) ?_
  show own_G p e below _ T4 (mkF m 34 #[.val (.int i0), .val (.int i1), .val (.int i2), .val (.int (i0 &&& (3 : Int32))), .val (.int (i1 &&& (3 : Int32))), .val (.ref (own_pick a_NOT_NULL a_NULLABLE a_NULL a_UNKNOWN (i0 &&& (3 : Int32)))), .val (.ref (own_pick a_NOT_NULL a_NULLABLE a_NULL a_UNKNOWN (i1 &&& (3 : Int32)))), .val (.ref (own_pick a_NOT_NULL a_NULLABLE a_NULL a_UNKNOWN i2)), .unset, .unset, .unset, .unset, .unset, .unset, .unset] [(.int (0 : Int32)), (.ref a4), (.ref a4)])
  refine own_go (fun t k => XS.iconst X4.here hx rfl (hb hby at_34) k) ?_
  show own_G p e below _ T4 (mkF m 35 #[.val (.int i0), .val (.int i1), .val (.int i2), .val (.int (i0 &&& (3 : Int32))), .val (.int (i1 &&& (3 : Int32))), .val (.ref (own_pick a_NOT_NULL a_NULLABLE a_NULL a_UNKNOWN (i0 &&& (3 : Int32)))), .val (.ref (own_pick a_NOT_NULL a_NULLABLE a_NULL a_UNKNOWN (i1 &&& (3 : Int32)))), .val (.ref (own_pick a_NOT_NULL a_NULLABLE a_NULL a_UNKNOWN i2)), .unset, .unset, .unset, .unset, .unset, .unset, .unset] [(.int (0 : Int32)), (.int (0 : Int32)), (.ref a4), (.ref a4)])
  obtain ⟨T5, h5, X5, e5, W5, st5⟩ := stI X4 hx hZ e4 A4 (j := (0 : Int32)) (own_in (n := 16) rfl (by decide)) (g := (mkF m 35 #[.val (.int i0), .val (.int i1), .val (.int i2), .val (.int (i0 &&& (3 : Int32))), .val (.int (i1 &&& (3 : Int32))), .val (.ref (own_pick a_NOT_NULL a_NULLABLE a_NULL a_UNKNOWN (i0 &&& (3 : Int32)))), .val (.ref (own_pick a_NOT_NULL a_NULLABLE a_NULL a_UNKNOWN (i1 &&& (3 : Int32)))), .val (.ref (own_pick a_NOT_NULL a_NULLABLE a_NULL a_UNKNOWN i2)), .unset, .unset, .unset, .unset, .unset, .unset, .unset] [(.int (0 : Int32)), (.int (0 : Int32)), (.ref a4), (.ref a4)])) rfl rfl (hb hby at_35)
  have A5 : Arr Z h5 a4 (own_cell c4 #[(.int (0 : Int32)), (.int 0), (.int 0), (.int 0), (.int 0), (.int 0), (.int 0), (.int 0), (.int 0), (.int 0), (.int 0), (.int 0), (.int 0), (.int 0), (.int 0), (.int 0)]) .int := A4.same W5
  have x5 : Ext h0 h5 := own_ext_wr x4 W5 j4
  have N5 := Fr.snoc X5 N3 (Nat.le_trans Z0 j4)
  refine own_go st5 ?_
  show own_G p e below _ T5 (mkF m 36 #[.val (.int i0), .val (.int i1), .val (.int i2), .val (.int (i0 &&& (3 : Int32))), .val (.int (i1 &&& (3 : Int32))), .val (.ref (own_pick a_NOT_NULL a_NULLABLE a_NULL a_UNKNOWN (i0 &&& (3 : Int32)))), .val (.ref (own_pick a_NOT_NULL a_NULLABLE a_NULL a_UNKNOWN (i1 &&& (3 : Int32)))), .val (.ref (own_pick a_NOT_NULL a_NULLABLE a_NULL a_UNKNOWN i2)), .unset, .unset, .unset, .unset, .unset, .unset, .unset] [(.ref a4)])
  refine own_go (fun t k => XS.dup X5.here hx rfl (hb hby at_36) rfl rfl k) ?_
  show own_G p e below _ T5 (mkF m 37 #[.val (.int i0), .val (.int i1), .val (.int i2), .val (.int (i0 &&& (3 : Int32))), .val (.int (i1 &&& (3 : Int32))), .val (.ref (own_pick a_NOT_NULL a_NULLABLE a_NULL a_UNKNOWN (i0 &&& (3 : Int32)))), .val (.ref (own_pick a_NOT_NULL a_NULLABLE a_NULL a_UNKNOWN (i1 &&& (3 : Int32)))), .val (.ref (own_pick a_NOT_NULL a_NULLABLE a_NULL a_UNKNOWN i2)), .unset, .unset, .unset, .unset, .unset, .unset, .unset] [(.ref a4), (.ref a4)])
  refine own_go (fun t k => XS.iconst X5.here hx rfl (hb hby at_37) k) ?_
  show own_G p e below _ T5 (mkF m 38 #[.val (.int i0), .val (.int i1), .val (.int i2), .val (.int (i0 &&& (3 : Int32))), .val (.int (i1 &&& (3 : Int32))), .val (.ref (own_pick a_NOT_NULL a_NULLABLE a_NULL a_UNKNOWN (i0 &&& (3 : Int32)))), .val (.ref (own_pick a_NOT_NULL a_NULLABLE a_NULL a_UNKNOWN (i1 &&& (3 : Int32)))), .val (.ref (own_pick a_NOT_NULL a_NULLABLE a_NULL a_UNKNOWN i2)), .unset, .unset, .unset, .unset, .unset, .unset, .unset] [(.int (1 : Int32)), (.ref a4), (.ref a4)])
  refine own_go (fun t k => XS.iconst X5.here hx rfl (hb hby at_38) k) ?_
  show own_G p e below _ T5 (mkF m 39 #[.val (.int i0), .val (.int i1), .val (.int i2), .val (.int (i0 &&& (3 : Int32))), .val (.int (i1 &&& (3 : Int32))), .val (.ref (own_pick a_NOT_NULL a_NULLABLE a_NULL a_UNKNOWN (i0 &&& (3 : Int32)))), .val (.ref (own_pick a_NOT_NULL a_NULLABLE a_NULL a_UNKNOWN (i1 &&& (3 : Int32)))), .val (.ref (own_pick a_NOT_NULL a_NULLABLE a_NULL a_UNKNOWN i2)), .unset, .unset, .unset, .unset, .unset, .unset, .unset] [(.int (1 : Int32)), (.int (1 : Int32)), (.ref a4), (.ref a4)])
  obtain ⟨T6, h6, X6, e6, W6, st6⟩ := stI X5 hx hZ e5 A5 (j := (1 : Int32)) (own_in (n := 16) rfl (by decide)) (g := (mkF m 39 #[.val (.int i0), .val (.int i1), .val (.int i2), .val (.int (i0 &&& (3 : Int32))), .val (.int (i1 &&& (3 : Int32))), .val (.ref (own_pick a_NOT_NULL a_NULLABLE a_NULL a_UNKNOWN (i0 &&& (3 : Int32)))), .val (.ref (own_pick a_NOT_NULL a_NULLABLE a_NULL a_UNKNOWN (i1 &&& (3 : Int32)))), .val (.ref (own_pick a_NOT_NULL a_NULLABLE a_NULL a_UNKNOWN i2)), .unset, .unset, .unset, .unset, .unset, .unset, .unset] [(.int (1 : Int32)), (.int (1 : Int32)), (.ref a4), (.ref a4)])) rfl rfl (hb hby at_39)
  have A6 : Arr Z h6 a4 (own_cell c4 #[(.int (0 : Int32)), (.int (1 : Int32)), (.int 0), (.int 0), (.int 0), (.int 0), (.int 0), (.int 0), (.int 0), (.int 0), (.int 0), (.int 0), (.int 0), (.int 0), (.int 0), (.int 0)]) .int := A5.same W6
  have x6 : Ext h0 h6 := own_ext_wr x5 W6 j4
  have N6 := Fr.snoc X6 N5 (Nat.le_trans Z0 j4)
  refine own_go st6 ?_
  show own_G p e below _ T6 (mkF m 40 #[.val (.int i0), .val (.int i1), .val (.int i2), .val (.int (i0 &&& (3 : Int32))), .val (.int (i1 &&& (3 : Int32))), .val (.ref (own_pick a_NOT_NULL a_NULLABLE a_NULL a_UNKNOWN (i0 &&& (3 : Int32)))), .val (.ref (own_pick a_NOT_NULL a_NULLABLE a_NULL a_UNKNOWN (i1 &&& (3 : Int32)))), .val (.ref (own_pick a_NOT_NULL a_NULLABLE a_NULL a_UNKNOWN i2)), .unset, .unset, .unset, .unset, .unset, .unset, .unset] [(.ref a4)])
  refine own_go (fun t k => XS.dup X6.here hx rfl (hb hby at_40) rfl rfl k) ?_
  show own_G p e below _ T6 (mkF m 41 #[.val (.int i0), .val (.int i1), .val (.int i2), .val (.int (i0 &&& (3 : Int32))), .val (.int (i1 &&& (3 : Int32))), .val (.ref (own_pick a_NOT_NULL a_NULLABLE a_NULL a_UNKNOWN (i0 &&& (3 : Int32)))), .val (.ref (own_pick a_NOT_NULL a_NULLABLE a_NULL a_UNKNOWN (i1 &&& (3 : Int32)))), .val (.ref (own_pick a_NOT_NULL a_NULLABLE a_NULL a_UNKNOWN i2)), .unset, .unset, .unset, .unset, .unset, .unset, .unset] [(.ref a4), (.ref a4)])
  refine own_go (fun t k => XS.iconst X6.here hx rfl (hb hby at_41) k) ?_
  show own_G p e below _ T6 (mkF m 42 #[.val (.int i0), .val (.int i1), .val (.int i2), .val (.int (i0 &&& (3 : Int32))), .val (.int (i1 &&& (3 : Int32))), .val (.ref (own_pick a_NOT_NULL a_NULLABLE a_NULL a_UNKNOWN (i0 &&& (3 : Int32)))), .val (.ref (own_pick a_NOT_NULL a_NULLABLE a_NULL a_UNKNOWN (i1 &&& (3 : Int32)))), .val (.ref (own_pick a_NOT_NULL a_NULLABLE a_NULL a_UNKNOWN i2)), .unset, .unset, .unset, .unset, .unset, .unset, .unset] [(.int (2 : Int32)), (.ref a4), (.ref a4)])
  refine own_go (fun t k => XS.iconst X6.here hx rfl (hb hby at_42) k) ?_
  show own_G p e below _ T6 (mkF m 43 #[.val (.int i0), .val (.int i1), .val (.int i2), .val (.int (i0 &&& (3 : Int32))), .val (.int (i1 &&& (3 : Int32))), .val (.ref (own_pick a_NOT_NULL a_NULLABLE a_NULL a_UNKNOWN (i0 &&& (3 : Int32)))), .val (.ref (own_pick a_NOT_NULL a_NULLABLE a_NULL a_UNKNOWN (i1 &&& (3 : Int32)))), .val (.ref (own_pick a_NOT_NULL a_NULLABLE a_NULL a_UNKNOWN i2)), .unset, .unset, .unset, .unset, .unset, .unset, .unset] [(.int (3 : Int32)), (.int (2 : Int32)), (.ref a4), (.ref a4)])
  obtain ⟨T7, h7, X7, e7, W7, st7⟩ := stI X6 hx hZ e6 A6 (j := (2 : Int32)) (own_in (n := 16) rfl (by decide)) (g := (mkF m 43 #[.val (.int i0), .val (.int i1), .val (.int i2), .val (.int (i0 &&& (3 : Int32))), .val (.int (i1 &&& (3 : Int32))), .val (.ref (own_pick a_NOT_NULL a_NULLABLE a_NULL a_UNKNOWN (i0 &&& (3 : Int32)))), .val (.ref (own_pick a_NOT_NULL a_NULLABLE a_NULL a_UNKNOWN (i1 &&& (3 : Int32)))), .val (.ref (own_pick a_NOT_NULL a_NULLABLE a_NULL a_UNKNOWN i2)), .unset, .unset, .unset, .unset, .unset, .unset, .unset] [(.int (3 : Int32)), (.int (2 : Int32)), (.ref a4), (.ref a4)])) rfl rfl (hb hby at_43)
  have A7 : Arr Z h7 a4 (own_cell c4 #[(.int (0 : Int32)), (.int (1 : Int32)), (.int (3 : Int32)), (.int 0), (.int 0), (.int 0), (.int 0), (.int 0), (.int 0), (.int 0), (.int 0), (.int 0), (.int 0), (.int 0), (.int 0), (.int 0)]) .int := A6.same W7
  have x7 : Ext h0 h7 := own_ext_wr x6 W7 j4
  have N7 := Fr.snoc X7 N6 (Nat.le_trans Z0 j4)
  refine own_go st7 ?_
  show own_G p e below _ T7 (mkF m 44 #[.val (.int i0), .val (.int i1), .val (.int i2), .val (.int (i0 &&& (3 : Int32))), .val (.int (i1 &&& (3 : Int32))), .val (.ref (own_pick a_NOT_NULL a_NULLABLE a_NULL a_UNKNOWN (i0 &&& (3 : Int32)))), .val (.ref (own_pick a_NOT_NULL a_NULLABLE a_NULL a_UNKNOWN (i1 &&& (3 : Int32)))), .val (.ref (own_pick a_NOT_NULL a_NULLABLE a_NULL a_UNKNOWN i2)), .unset, .unset, .unset, .unset, .unset, .unset, .unset] [(.ref a4)])
  refine own_go (fun t k => XS.dup X7.here hx rfl (hb hby at_44) rfl rfl k) ?_
  show own_G p e below _ T7 (mkF m 45 #[.val (.int i0), .val (.int i1), .val (.int i2), .val (.int (i0 &&& (3 : Int32))), .val (.int (i1 &&& (3 : Int32))), .val (.ref (own_pick a_NOT_NULL a_NULLABLE a_NULL a_UNKNOWN (i0 &&& (3 : Int32)))), .val (.ref (own_pick a_NOT_NULL a_NULLABLE a_NULL a_UNKNOWN (i1 &&& (3 : Int32)))), .val (.ref (own_pick a_NOT_NULL a_NULLABLE a_NULL a_UNKNOWN i2)), .unset, .unset, .unset, .unset, .unset, .unset, .unset] [(.ref a4), (.ref a4)])
  refine own_go (fun t k => XS.iconst X7.here hx rfl (hb hby at_45) k) ?_
  show own_G p e below _ T7 (mkF m 46 #[.val (.int i0), .val (.int i1), .val (.int i2), .val (.int (i0 &&& (3 : Int32))), .val (.int (i1 &&& (3 : Int32))), .val (.ref (own_pick a_NOT_NULL a_NULLABLE a_NULL a_UNKNOWN (i0 &&& (3 : Int32)))), .val (.ref (own_pick a_NOT_NULL a_NULLABLE a_NULL a_UNKNOWN (i1 &&& (3 : Int32)))), .val (.ref (own_pick a_NOT_NULL a_NULLABLE a_NULL a_UNKNOWN i2)), .unset, .unset, .unset, .unset, .unset, .unset, .unset] [(.int (3 : Int32)), (.ref a4), (.ref a4)])
  refine own_go (fun t k => XS.iconst X7.here hx rfl (hb hby at_46) k) ?_
  show own_G p e below _ T7 (mkF m 47 #[.val (.int i0), .val (.int i1), .val (.int i2), .val (.int (i0 &&& (3 : Int32))), .val (.int (i1 &&& (3 : Int32))), .val (.ref (own_pick a_NOT_NULL a_NULLABLE a_NULL a_UNKNOWN (i0 &&& (3 : Int32)))), .val (.ref (own_pick a_NOT_NULL a_NULLABLE a_NULL a_UNKNOWN (i1 &&& (3 : Int32)))), .val (.ref (own_pick a_NOT_NULL a_NULLABLE a_NULL a_UNKNOWN i2)), .unset, .unset, .unset, .unset, .unset, .unset, .unset] [(.int (3 : Int32)), (.int (3 : Int32)), (.ref a4), (.ref a4)])
  obtain ⟨T8, h8, X8, e8, W8, st8⟩ := stI X7 hx hZ e7 A7 (j := (3 : Int32)) (own_in (n := 16) rfl (by decide)) (g := (mkF m 47 #[.val (.int i0), .val (.int i1), .val (.int i2), .val (.int (i0 &&& (3 : Int32))), .val (.int (i1 &&& (3 : Int32))), .val (.ref (own_pick a_NOT_NULL a_NULLABLE a_NULL a_UNKNOWN (i0 &&& (3 : Int32)))), .val (.ref (own_pick a_NOT_NULL a_NULLABLE a_NULL a_UNKNOWN (i1 &&& (3 : Int32)))), .val (.ref (own_pick a_NOT_NULL a_NULLABLE a_NULL a_UNKNOWN i2)), .unset, .unset, .unset, .unset, .unset, .unset, .unset] [(.int (3 : Int32)), (.int (3 : Int32)), (.ref a4), (.ref a4)])) rfl rfl (hb hby at_47)
  have A8 : Arr Z h8 a4 (own_cell c4 #[(.int (0 : Int32)), (.int (1 : Int32)), (.int (3 : Int32)), (.int (3 : Int32)), (.int 0), (.int 0), (.int 0), (.int 0), (.int 0), (.int 0), (.int 0), (.int 0), (.int 0), (.int 0), (.int 0), (.int 0)]) .int := A7.same W8
  have x8 : Ext h0 h8 := own_ext_wr x7 W8 j4
  have N8 := Fr.snoc X8 N7 (Nat.le_trans Z0 j4)
  refine own_go st8 ?_
  show own_G p e below _ T8 (mkF m 48 #[.val (.int i0), .val (.int i1), .val (.int i2), .val (.int (i0 &&& (3 : Int32))), .val (.int (i1 &&& (3 : Int32))), .val (.ref (own_pick a_NOT_NULL a_NULLABLE a_NULL a_UNKNOWN (i0 &&& (3 : Int32)))), .val (.ref (own_pick a_NOT_NULL a_NULLABLE a_NULL a_UNKNOWN (i1 &&& (3 : Int32)))), .val (.ref (own_pick a_NOT_NULL a_NULLABLE a_NULL a_UNKNOWN i2)), .unset, .unset, .unset, .unset, .unset, .unset, .unset] [(.ref a4)])
  refine own_go (fun t k => XS.dup X8.here hx rfl (hb hby at_48) rfl rfl k) ?_
  show own_G p e below _ T8 (mkF m 49 #[.val (.int i0), .val (.int i1), .val (.int i2), .val (.int (i0 &&& (3 : Int32))), .val (.int (i1 &&& (3 : Int32))), .val (.ref (own_pick a_NOT_NULL a_NULLABLE a_NULL a_UNKNOWN (i0 &&& (3 : Int32)))), .val (.ref (own_pick a_NOT_NULL a_NULLABLE a_NULL a_UNKNOWN (i1 &&& (3 : Int32)))), .val (.ref (own_pick a_NOT_NULL a_NULLABLE a_NULL a_UNKNOWN i2)), .unset, .unset, .unset, .unset, .unset, .unset, .unset] [(.ref a4), (.ref a4)])
  refine own_go (fun t k => XS.iconst X8.here hx rfl (hb hby at_49) k) ?_
  show own_G p e below _ T8 (mkF m 50 #[.val (.int i0), .val (.int i1), .val (.int i2), .val (.int (i0 &&& (3 : Int32))), .val (.int (i1 &&& (3 : Int32))), .val (.ref (own_pick a_NOT_NULL a_NULLABLE a_NULL a_UNKNOWN (i0 &&& (3 : Int32)))), .val (.ref (own_pick a_NOT_NULL a_NULLABLE a_NULL a_UNKNOWN (i1 &&& (3 : Int32)))), .val (.ref (own_pick a_NOT_NULL a_NULLABLE a_NULL a_UNKNOWN i2)), .unset, .unset, .unset, .unset, .unset, .unset, .unset] [(.int (4 : Int32)), (.ref a4), (.ref a4)])
  refine own_go (fun t k => XS.iconst X8.here hx rfl (hb hby at_50) k) ?_
  show own_G p e below _ T8 (mkF m 51 #[.val (.int i0), .val (.int i1), .val (.int i2), .val (.int (i0 &&& (3 : Int32))), .val (.int (i1 &&& (3 : Int32))), .val (.ref (own_pick a_NOT_NULL a_NULLABLE a_NULL a_UNKNOWN (i0 &&& (3 : Int32)))), .val (.ref (own_pick a_NOT_NULL a_NULLABLE a_NULL a_UNKNOWN (i1 &&& (3 : Int32)))), .val (.ref (own_pick a_NOT_NULL a_NULLABLE a_NULL a_UNKNOWN i2)), .unset, .unset, .unset, .unset, .unset, .unset, .unset] [(.int (1 : Int32)), (.int (4 : Int32)), (.ref a4), (.ref a4)])
  obtain ⟨T9, h9, X9, e9, W9, st9⟩ := stI X8 hx hZ e8 A8 (j := (4 : Int32)) (own_in (n := 16) rfl (by decide)) (g := (mkF m 51 #[.val (.int i0), .val (.int i1), .val (.int i2), .val (.int (i0 &&& (3 : Int32))), .val (.int (i1 &&& (3 : Int32))), .val (.ref (own_pick a_NOT_NULL a_NULLABLE a_NULL a_UNKNOWN (i0 &&& (3 : Int32)))), .val (.ref (own_pick a_NOT_NULL a_NULLABLE a_NULL a_UNKNOWN (i1 &&& (3 : Int32)))), .val (.ref (own_pick a_NOT_NULL a_NULLABLE a_NULL a_UNKNOWN i2)), .unset, .unset, .unset, .unset, .unset, .unset, .unset] [(.int (1 : Int32)), (.int (4 : Int32)), (.ref a4), (.ref a4)])) rfl rfl (hb hby at_51)
  have A9 : Arr Z h9 a4 (own_cell c4 #[(.int (0 : Int32)), (.int (1 : Int32)), (.int (3 : Int32)), (.int (3 : Int32)), (.int (1 : Int32)), (.int 0), (.int 0), (.int 0), (.int 0), (.int 0), (.int 0), (.int 0), (.int 0), (.int 0), (.int 0), (.int 0)]) .int := A8.same W9
  have x9 : Ext h0 h9 := own_ext_wr x8 W9 j4
  have N9 := Fr.snoc X9 N8 (Nat.le_trans Z0 j4)
  refine own_go st9 ?_
  show own_G p e below _ T9 (mkF m 52 #[.val (.int i0), .val (.int i1), .val (.int i2), .val (.int (i0 &&& (3 : Int32))), .val (.int (i1 &&& (3 : Int32))), .val (.ref (own_pick a_NOT_NULL a_NULLABLE a_NULL a_UNKNOWN (i0 &&& (3 : Int32)))), .val (.ref (own_pick a_NOT_NULL a_NULLABLE a_NULL a_UNKNOWN (i1 &&& (3 : Int32)))), .val (.ref (own_pick a_NOT_NULL a_NULLABLE a_NULL a_UNKNOWN i2)), .unset, .unset, .unset, .unset, .unset, .unset, .unset] [(.ref a4)])
  refine own_go (fun t k => XS.dup X9.here hx rfl (hb hby at_52) rfl rfl k) ?_
  show own_G p e below _ T9 (mkF m 53 #[.val (.int i0), .val (.int i1), .val (.int i2), .val (.int (i0 &&& (3 : Int32))), .val (.int (i1 &&& (3 : Int32))), .val (.ref (own_pick a_NOT_NULL a_NULLABLE a_NULL a_UNKNOWN (i0 &&& (3 : Int32)))), .val (.ref (own_pick a_NOT_NULL a_NULLABLE a_NULL a_UNKNOWN (i1 &&& (3 : Int32)))), .val (.ref (own_pick a_NOT_NULL a_NULLABLE a_NULL a_UNKNOWN i2)), .unset, .unset, .unset, .unset, .unset, .unset, .unset] [(.ref a4), (.ref a4)])
  refine own_go (fun t k => XS.iconst X9.here hx rfl (hb hby at_53) k) ?_
  show own_G p e below _ T9 (mkF m 54 #[.val (.int i0), .val (.int i1), .val (.int i2), .val (.int (i0 &&& (3 : Int32))), .val (.int (i1 &&& (3 : Int32))), .val (.ref (own_pick a_NOT_NULL a_NULLABLE a_NULL a_UNKNOWN (i0 &&& (3 : Int32)))), .val (.ref (own_pick a_NOT_NULL a_NULLABLE a_NULL a_UNKNOWN (i1 &&& (3 : Int32)))), .val (.ref (own_pick a_NOT_NULL a_NULLABLE a_NULL a_UNKNOWN i2)), .unset, .unset, .unset, .unset, .unset, .unset, .unset] [(.int (5 : Int32)), (.ref a4), (.ref a4)])
  refine own_go (fun t k => XS.iconst X9.here hx rfl (hb hby at_54) k) ?_
  show own_G p e below _ T9 (mkF m 55 #[.val (.int i0), .val (.int i1), .val (.int i2), .val (.int (i0 &&& (3 : Int32))), .val (.int (i1 &&& (3 : Int32))), .val (.ref (own_pick a_NOT_NULL a_NULLABLE a_NULL a_UNKNOWN (i0 &&& (3 : Int32)))), .val (.ref (own_pick a_NOT_NULL a_NULLABLE a_NULL a_UNKNOWN (i1 &&& (3 : Int32)))), .val (.ref (own_pick a_NOT_NULL a_NULLABLE a_NULL a_UNKNOWN i2)), .unset, .unset, .unset, .unset, .unset, .unset, .unset] [(.int (1 : Int32)), (.int (5 : Int32)), (.ref a4), (.ref a4)])
  obtain ⟨T10, h10, X10, e10, W10, st10⟩ := stI X9 hx hZ e9 A9 (j := (5 : Int32)) (own_in (n := 16) rfl (by decide)) (g := (mkF m 55 #[.val (.int i0), .val (.int i1), .val (.int i2), .val (.int (i0 &&& (3 : Int32))), .val (.int (i1 &&& (3 : Int32))), .val (.ref (own_pick a_NOT_NULL a_NULLABLE a_NULL a_UNKNOWN (i0 &&& (3 : Int32)))), .val (.ref (own_pick a_NOT_NULL a_NULLABLE a_NULL a_UNKNOWN (i1 &&& (3 : Int32)))), .val (.ref (own_pick a_NOT_NULL a_NULLABLE a_NULL a_UNKNOWN i2)), .unset, .unset, .unset, .unset, .unset, .unset, .unset] [(.int (1 : Int32)), (.int (5 : Int32)), (.ref a4), (.ref a4)])) rfl rfl (hb hby at_55)
  have A10 : Arr Z h10 a4 (own_cell c4 #[(.int (0 : Int32)), (.int (1 : Int32)), (.int (3 : Int32)), (.int (3 : Int32)), (.int (1 : Int32)), (.int (1 : Int32)), (.int 0), (.int 0), (.int 0), (.int 0), (.int 0), (.int 0), (.int 0), (.int 0), (.int 0), (.int 0)]) .int := A9.same W10
  have x10 : Ext h0 h10 := own_ext_wr x9 W10 j4
  have N10 := Fr.snoc X10 N9 (Nat.le_trans Z0 j4)
  refine own_go st10 ?_
  show own_G p e below _ T10 (mkF m 56 #[.val (.int i0), .val (.int i1), .val (.int i2), .val (.int (i0 &&& (3 : Int32))), .val (.int (i1 &&& (3 : Int32))), .val (.ref (own_pick a_NOT_NULL a_NULLABLE a_NULL a_UNKNOWN (i0 &&& (3 : Int32)))), .val (.ref (own_pick a_NOT_NULL a_NULLABLE a_NULL a_UNKNOWN (i1 &&& (3 : Int32)))), .val (.ref (own_pick a_NOT_NULL a_NULLABLE a_NULL a_UNKNOWN i2)), .unset, .unset, .unset, .unset, .unset, .unset, .unset] [(.ref a4)])
  refine own_go (fun t k => XS.dup X10.here hx rfl (hb hby at_56) rfl rfl k) ?_
  show own_G p e below _ T10 (mkF m 57 #[.val (.int i0), .val (.int i1), .val (.int i2), .val (.int (i0 &&& (3 : Int32))), .val (.int (i1 &&& (3 : Int32))), .val (.ref (own_pick a_NOT_NULL a_NULLABLE a_NULL a_UNKNOWN (i0 &&& (3 : Int32)))), .val (.ref (own_pick a_NOT_NULL a_NULLABLE a_NULL a_UNKNOWN (i1 &&& (3 : Int32)))), .val (.ref (own_pick a_NOT_NULL a_NULLABLE a_NULL a_UNKNOWN i2)), .unset, .unset, .unset, .unset, .unset, .unset, .unset] [(.ref a4), (.ref a4)])
  refine own_go (fun t k => XS.bipush X10.here hx rfl (hb hby at_57) k) ?_
  show own_G p e below _ T10 (mkF m 59 #[.val (.int i0), .val (.int i1), .val (.int i2), .val (.int (i0 &&& (3 : Int32))), .val (.int (i1 &&& (3 : Int32))), .val (.ref (own_pick a_NOT_NULL a_NULLABLE a_NULL a_UNKNOWN (i0 &&& (3 : Int32)))), .val (.ref (own_pick a_NOT_NULL a_NULLABLE a_NULL a_UNKNOWN (i1 &&& (3 : Int32)))), .val (.ref (own_pick a_NOT_NULL a_NULLABLE a_NULL a_UNKNOWN i2)), .unset, .unset, .unset, .unset, .unset, .unset, .unset] [(.int (6 : Int32)), (.ref a4), (.ref a4)])
  refine own_go (fun t k => XS.iconst X10.here hx rfl (hb hby at_59) k) ?_
  show own_G p e below _ T10 (mkF m 60 #[.val (.int i0), .val (.int i1), .val (.int i2), .val (.int (i0 &&& (3 : Int32))), .val (.int (i1 &&& (3 : Int32))), .val (.ref (own_pick a_NOT_NULL a_NULLABLE a_NULL a_UNKNOWN (i0 &&& (3 : Int32)))), .val (.ref (own_pick a_NOT_NULL a_NULLABLE a_NULL a_UNKNOWN (i1 &&& (3 : Int32)))), .val (.ref (own_pick a_NOT_NULL a_NULLABLE a_NULL a_UNKNOWN i2)), .unset, .unset, .unset, .unset, .unset, .unset, .unset] [(.int (3 : Int32)), (.int (6 : Int32)), (.ref a4), (.ref a4)])
  obtain ⟨T11, h11, X11, e11, W11, st11⟩ := stI X10 hx hZ e10 A10 (j := (6 : Int32)) (own_in (n := 16) rfl (by decide)) (g := (mkF m 60 #[.val (.int i0), .val (.int i1), .val (.int i2), .val (.int (i0 &&& (3 : Int32))), .val (.int (i1 &&& (3 : Int32))), .val (.ref (own_pick a_NOT_NULL a_NULLABLE a_NULL a_UNKNOWN (i0 &&& (3 : Int32)))), .val (.ref (own_pick a_NOT_NULL a_NULLABLE a_NULL a_UNKNOWN (i1 &&& (3 : Int32)))), .val (.ref (own_pick a_NOT_NULL a_NULLABLE a_NULL a_UNKNOWN i2)), .unset, .unset, .unset, .unset, .unset, .unset, .unset] [(.int (3 : Int32)), (.int (6 : Int32)), (.ref a4), (.ref a4)])) rfl rfl (hb hby at_60)
  have A11 : Arr Z h11 a4 (own_cell c4 #[(.int (0 : Int32)), (.int (1 : Int32)), (.int (3 : Int32)), (.int (3 : Int32)), (.int (1 : Int32)), (.int (1 : Int32)), (.int (3 : Int32)), (.int 0), (.int 0), (.int 0), (.int 0), (.int 0), (.int 0), (.int 0), (.int 0), (.int 0)]) .int := A10.same W11
  have x11 : Ext h0 h11 := own_ext_wr x10 W11 j4
  have N11 := Fr.snoc X11 N10 (Nat.le_trans Z0 j4)
  refine own_go st11 ?_
  show own_G p e below _ T11 (mkF m 61 #[.val (.int i0), .val (.int i1), .val (.int i2), .val (.int (i0 &&& (3 : Int32))), .val (.int (i1 &&& (3 : Int32))), .val (.ref (own_pick a_NOT_NULL a_NULLABLE a_NULL a_UNKNOWN (i0 &&& (3 : Int32)))), .val (.ref (own_pick a_NOT_NULL a_NULLABLE a_NULL a_UNKNOWN (i1 &&& (3 : Int32)))), .val (.ref (own_pick a_NOT_NULL a_NULLABLE a_NULL a_UNKNOWN i2)), .unset, .unset, .unset, .unset, .unset, .unset, .unset] [(.ref a4)])
  refine own_go (fun t k => XS.dup X11.here hx rfl (hb hby at_61) rfl rfl k) ?_
  show own_G p e below _ T11 (mkF m 62 #[.val (.int i0), .val (.int i1), .val (.int i2), .val (.int (i0 &&& (3 : Int32))), .val (.int (i1 &&& (3 : Int32))), .val (.ref (own_pick a_NOT_NULL a_NULLABLE a_NULL a_UNKNOWN (i0 &&& (3 : Int32)))), .val (.ref (own_pick a_NOT_NULL a_NULLABLE a_NULL a_UNKNOWN (i1 &&& (3 : Int32)))), .val (.ref (own_pick a_NOT_NULL a_NULLABLE a_NULL a_UNKNOWN i2)), .unset, .unset, .unset, .unset, .unset, .unset, .unset] [(.ref a4), (.ref a4)])
  refine own_go (fun t k => XS.bipush X11.here hx rfl (hb hby at_62) k) ?_
  show own_G p e below _ T11 (mkF m 64 #[.val (.int i0), .val (.int i1), .val (.int i2), .val (.int (i0 &&& (3 : Int32))), .val (.int (i1 &&& (3 : Int32))), .val (.ref (own_pick a_NOT_NULL a_NULLABLE a_NULL a_UNKNOWN (i0 &&& (3 : Int32)))), .val (.ref (own_pick a_NOT_NULL a_NULLABLE a_NULL a_UNKNOWN (i1 &&& (3 : Int32)))), .val (.ref (own_pick a_NOT_NULL a_NULLABLE a_NULL a_UNKNOWN i2)), .unset, .unset, .unset, .unset, .unset, .unset, .unset] [(.int (7 : Int32)), (.ref a4), (.ref a4)])
  refine own_go (fun t k => XS.iconst X11.here hx rfl (hb hby at_64) k) ?_
  show own_G p e below _ T11 (mkF m 65 #[.val (.int i0), .val (.int i1), .val (.int i2), .val (.int (i0 &&& (3 : Int32))), .val (.int (i1 &&& (3 : Int32))), .val (.ref (own_pick a_NOT_NULL a_NULLABLE a_NULL a_UNKNOWN (i0 &&& (3 : Int32)))), .val (.ref (own_pick a_NOT_NULL a_NULLABLE a_NULL a_UNKNOWN (i1 &&& (3 : Int32)))), .val (.ref (own_pick a_NOT_NULL a_NULLABLE a_NULL a_UNKNOWN i2)), .unset, .unset, .unset, .unset, .unset, .unset, .unset] [(.int (3 : Int32)), (.int (7 : Int32)), (.ref a4), (.ref a4)])
  obtain ⟨T12, h12, X12, e12, W12, st12⟩ := stI X11 hx hZ e11 A11 (j := (7 : Int32)) (own_in (n := 16) rfl (by decide)) (g := (mkF m 65 #[.val (.int i0), .val (.int i1), .val (.int i2), .val (.int (i0 &&& (3 : Int32))), .val (.int (i1 &&& (3 : Int32))), .val (.ref (own_pick a_NOT_NULL a_NULLABLE a_NULL a_UNKNOWN (i0 &&& (3 : Int32)))), .val (.ref (own_pick a_NOT_NULL a_NULLABLE a_NULL a_UNKNOWN (i1 &&& (3 : Int32)))), .val (.ref (own_pick a_NOT_NULL a_NULLABLE a_NULL a_UNKNOWN i2)), .unset, .unset, .unset, .unset, .unset, .unset, .unset] [(.int (3 : Int32)), (.int (7 : Int32)), (.ref a4), (.ref a4)])) rfl rfl (hb hby at_65)
  have A12 : Arr Z h12 a4 (own_cell c4 #[(.int (0 : Int32)), (.int (1 : Int32)), (.int (3 : Int32)), (.int (3 : Int32)), (.int (1 : Int32)), (.int (1 : Int32)), (.int (3 : Int32)), (.int (3 : Int32)), (.int 0), (.int 0), (.int 0), (.int 0), (.int 0), (.int 0), (.int 0), (.int 0)]) .int := A11.same W12
  have x12 : Ext h0 h12 := own_ext_wr x11 W12 j4
  have N12 := Fr.snoc X12 N11 (Nat.le_trans Z0 j4)
  refine own_go st12 ?_
  show own_G p e below _ T12 (mkF m 66 #[.val (.int i0), .val (.int i1), .val (.int i2), .val (.int (i0 &&& (3 : Int32))), .val (.int (i1 &&& (3 : Int32))), .val (.ref (own_pick a_NOT_NULL a_NULLABLE a_NULL a_UNKNOWN (i0 &&& (3 : Int32)))), .val (.ref (own_pick a_NOT_NULL a_NULLABLE a_NULL a_UNKNOWN (i1 &&& (3 : Int32)))), .val (.ref (own_pick a_NOT_NULL a_NULLABLE a_NULL a_UNKNOWN i2)), .unset, .unset, .unset, .unset, .unset, .unset, .unset] [(.ref a4)])
  refine own_go (fun t k => XS.dup X12.here hx rfl (hb hby at_66) rfl rfl k) ?_
  show own_G p e below _ T12 (mkF m 67 #[.val (.int i0), .val (.int i1), .val (.int i2), .val (.int (i0 &&& (3 : Int32))), .val (.int (i1 &&& (3 : Int32))), .val (.ref (own_pick a_NOT_NULL a_NULLABLE a_NULL a_UNKNOWN (i0 &&& (3 : Int32)))), .val (.ref (own_pick a_NOT_NULL a_NULLABLE a_NULL a_UNKNOWN (i1 &&& (3 : Int32)))), .val (.ref (own_pick a_NOT_NULL a_NULLABLE a_NULL a_UNKNOWN i2)), .unset, .unset, .unset, .unset, .unset, .unset, .unset] [(.ref a4), (.ref a4)])
  refine own_go (fun t k => XS.bipush X12.here hx rfl (hb hby at_67) k) ?_
  show own_G p e below _ T12 (mkF m 69 #[.val (.int i0), .val (.int i1), .val (.int i2), .val (.int (i0 &&& (3 : Int32))), .val (.int (i1 &&& (3 : Int32))), .val (.ref (own_pick a_NOT_NULL a_NULLABLE a_NULL a_UNKNOWN (i0 &&& (3 : Int32)))), .val (.ref (own_pick a_NOT_NULL a_NULLABLE a_NULL a_UNKNOWN (i1 &&& (3 : Int32)))), .val (.ref (own_pick a_NOT_NULL a_NULLABLE a_NULL a_UNKNOWN i2)), .unset, .unset, .unset, .unset, .unset, .unset, .unset] [(.int (8 : Int32)), (.ref a4), (.ref a4)])
  refine own_go (fun t k => XS.iconst X12.here hx rfl (hb hby at_69) k) ?_
  show own_G p e below _ T12 (mkF m 70 #[.val (.int i0), .val (.int i1), .val (.int i2), .val (.int (i0 &&& (3 : Int32))), .val (.int (i1 &&& (3 : Int32))), .val (.ref (own_pick a_NOT_NULL a_NULLABLE a_NULL a_UNKNOWN (i0 &&& (3 : Int32)))), .val (.ref (own_pick a_NOT_NULL a_NULLABLE a_NULL a_UNKNOWN (i1 &&& (3 : Int32)))), .val (.ref (own_pick a_NOT_NULL a_NULLABLE a_NULL a_UNKNOWN i2)), .unset, .unset, .unset, .unset, .unset, .unset, .unset] [(.int (3 : Int32)), (.int (8 : Int32)), (.ref a4), (.ref a4)])
  obtain ⟨T13, h13, X13, e13, W13, st13⟩ := stI X12 hx hZ e12 A12 (j := (8 : Int32)) (own_in (n := 16) rfl (by decide)) (g := (mkF m 70 #[.val (.int i0), .val (.int i1), .val (.int i2), .val (.int (i0 &&& (3 : Int32))), .val (.int (i1 &&& (3 : Int32))), .val (.ref (own_pick a_NOT_NULL a_NULLABLE a_NULL a_UNKNOWN (i0 &&& (3 : Int32)))), .val (.ref (own_pick a_NOT_NULL a_NULLABLE a_NULL a_UNKNOWN (i1 &&& (3 : Int32)))), .val (.ref (own_pick a_NOT_NULL a_NULLABLE a_NULL a_UNKNOWN i2)), .unset, .unset, .unset, .unset, .unset, .unset, .unset] [(.int (3 : Int32)), (.int (8 : Int32)), (.ref a4), (.ref a4)])) rfl rfl (hb hby at_70)
  have A13 : Arr Z h13 a4 (own_cell c4 #[(.int (0 : Int32)), (.int (1 : Int32)), (.int (3 : Int32)), (.int (3 : Int32)), (.int (1 : Int32)), (.int (1 : Int32)), (.int (3 : Int32)), (.int (3 : Int32)), (.int (3 : Int32)), (.int 0), (.int 0), (.int 0), (.int 0), (.int 0), (.int 0), (.int 0)]) .int := A12.same W13
  have x13 : Ext h0 h13 := own_ext_wr x12 W13 j4
  have N13 := Fr.snoc X13 N12 (Nat.le_trans Z0 j4)
  refine own_go st13 ?_
  show own_G p e below _ T13 (mkF m 71 #[.val (.int i0), .val (.int i1), .val (.int i2), .val (.int (i0 &&& (3 : Int32))), .val (.int (i1 &&& (3 : Int32))), .val (.ref (own_pick a_NOT_NULL a_NULLABLE a_NULL a_UNKNOWN (i0 &&& (3 : Int32)))), .val (.ref (own_pick a_NOT_NULL a_NULLABLE a_NULL a_UNKNOWN (i1 &&& (3 : Int32)))), .val (.ref (own_pick a_NOT_NULL a_NULLABLE a_NULL a_UNKNOWN i2)), .unset, .unset, .unset, .unset, .unset, .unset, .unset] [(.ref a4)])
  refine own_go (fun t k => XS.dup X13.here hx rfl (hb hby at_71) rfl rfl k) ?_
  show own_G p e below _ T13 (mkF m 72 #[.val (.int i0), .val (.int i1), .val (.int i2), .val (.int (i0 &&& (3 : Int32))), .val (.int (i1 &&& (3 : Int32))), .val (.ref (own_pick a_NOT_NULL a_NULLABLE a_NULL a_UNKNOWN (i0 &&& (3 : Int32)))), .val (.ref (own_pick a_NOT_NULL a_NULLABLE a_NULL a_UNKNOWN (i1 &&& (3 : Int32)))), .val (.ref (own_pick a_NOT_NULL a_NULLABLE a_NULL a_UNKNOWN i2)), .unset, .unset, .unset, .unset, .unset, .unset, .unset] [(.ref a4), (.ref a4)])
  refine own_go (fun t k => XS.bipush X13.here hx rfl (hb hby at_72) k) ?_
  show own_G p e below _ T13 (mkF m 74 #[.val (.int i0), .val (.int i1), .val (.int i2), .val (.int (i0 &&& (3 : Int32))), .val (.int (i1 &&& (3 : Int32))), .val (.ref (own_pick a_NOT_NULL a_NULLABLE a_NULL a_UNKNOWN (i0 &&& (3 : Int32)))), .val (.ref (own_pick a_NOT_NULL a_NULLABLE a_NULL a_UNKNOWN (i1 &&& (3 : Int32)))), .val (.ref (own_pick a_NOT_NULL a_NULLABLE a_NULL a_UNKNOWN i2)), .unset, .unset, .unset, .unset, .unset, .unset, .unset] [(.int (9 : Int32)), (.ref a4), (.ref a4)])
  refine own_go (fun t k => XS.iconst X13.here hx rfl (hb hby at_74) k) ?_
  show own_G p e below _ T13 (mkF m 75 #[.val (.int i0), .val (.int i1), .val (.int i2), .val (.int (i0 &&& (3 : Int32))), .val (.int (i1 &&& (3 : Int32))), .val (.ref (own_pick a_NOT_NULL a_NULLABLE a_NULL a_UNKNOWN (i0 &&& (3 : Int32)))), .val (.ref (own_pick a_NOT_NULL a_NULLABLE a_NULL a_UNKNOWN (i1 &&& (3 : Int32)))), .val (.ref (own_pick a_NOT_NULL a_NULLABLE a_NULL a_UNKNOWN i2)), .unset, .unset, .unset, .unset, .unset, .unset, .unset] [(.int (3 : Int32)), (.int (9 : Int32)), (.ref a4), (.ref a4)])
  obtain ⟨T14, h14, X14, e14, W14, st14⟩ := stI X13 hx hZ e13 A13 (j := (9 : Int32)) (own_in (n := 16) rfl (by decide)) (g := (mkF m 75 #[.val (.int i0), .val (.int i1), .val (.int i2), .val (.int (i0 &&& (3 : Int32))), .val (.int (i1 &&& (3 : Int32))), .val (.ref (own_pick a_NOT_NULL a_NULLABLE a_NULL a_UNKNOWN (i0 &&& (3 : Int32)))), .val (.ref (own_pick a_NOT_NULL a_NULLABLE a_NULL a_UNKNOWN (i1 &&& (3 : Int32)))), .val (.ref (own_pick a_NOT_NULL a_NULLABLE a_NULL a_UNKNOWN i2)), .unset, .unset, .unset, .unset, .unset, .unset, .unset] [(.int (3 : Int32)), (.int (9 : Int32)), (.ref a4), (.ref a4)])) rfl rfl (hb hby at_75)
  have A14 : Arr Z h14 a4 (own_cell c4 #[(.int (0 : Int32)), (.int (1 : Int32)), (.int (3 : Int32)), (.int (3 : Int32)), (.int (1 : Int32)), (.int (1 : Int32)), (.int (3 : Int32)), (.int (3 : Int32)), (.int (3 : Int32)), (.int (3 : Int32)), (.int 0), (.int 0), (.int 0), (.int 0), (.int 0), (.int 0)]) .int := A13.same W14
  have x14 : Ext h0 h14 := own_ext_wr x13 W14 j4
  have N14 := Fr.snoc X14 N13 (Nat.le_trans Z0 j4)
  refine own_go st14 ?_
  show own_G p e below _ T14 (mkF m 76 #[.val (.int i0), .val (.int i1), .val (.int i2), .val (.int (i0 &&& (3 : Int32))), .val (.int (i1 &&& (3 : Int32))), .val (.ref (own_pick a_NOT_NULL a_NULLABLE a_NULL a_UNKNOWN (i0 &&& (3 : Int32)))), .val (.ref (own_pick a_NOT_NULL a_NULLABLE a_NULL a_UNKNOWN (i1 &&& (3 : Int32)))), .val (.ref (own_pick a_NOT_NULL a_NULLABLE a_NULL a_UNKNOWN i2)), .unset, .unset, .unset, .unset, .unset, .unset, .unset] [(.ref a4)])
  refine own_go (fun t k => XS.dup X14.here hx rfl (hb hby at_76) rfl rfl k) ?_
  show own_G p e below _ T14 (mkF m 77 #[.val (.int i0), .val (.int i1), .val (.int i2), .val (.int (i0 &&& (3 : Int32))), .val (.int (i1 &&& (3 : Int32))), .val (.ref (own_pick a_NOT_NULL a_NULLABLE a_NULL a_UNKNOWN (i0 &&& (3 : Int32)))), .val (.ref (own_pick a_NOT_NULL a_NULLABLE a_NULL a_UNKNOWN (i1 &&& (3 : Int32)))), .val (.ref (own_pick a_NOT_NULL a_NULLABLE a_NULL a_UNKNOWN i2)), .unset, .unset, .unset, .unset, .unset, .unset, .unset] [(.ref a4), (.ref a4)])
  refine own_go (fun t k => XS.bipush X14.here hx rfl (hb hby at_77) k) ?_
  show own_G p e below _ T14 (mkF m 79 #[.val (.int i0), .val (.int i1), .val (.int i2), .val (.int (i0 &&& (3 : Int32))), .val (.int (i1 &&& (3 : Int32))), .val (.ref (own_pick a_NOT_NULL a_NULLABLE a_NULL a_UNKNOWN (i0 &&& (3 : Int32)))), .val (.ref (own_pick a_NOT_NULL a_NULLABLE a_NULL a_UNKNOWN (i1 &&& (3 : Int32)))), .val (.ref (own_pick a_NOT_NULL a_NULLABLE a_NULL a_UNKNOWN i2)), .unset, .unset, .unset, .unset, .unset, .unset, .unset] [(.int (10 : Int32)), (.ref a4), (.ref a4)])
  refine own_go (fun t k => XS.iconst X14.here hx rfl (hb hby at_79) k) ?_
  show own_G p e below _ T14 (mkF m 80 #[.val (.int i0), .val (.int i1), .val (.int i2), .val (.int (i0 &&& (3 : Int32))), .val (.int (i1 &&& (3 : Int32))), .val (.ref (own_pick a_NOT_NULL a_NULLABLE a_NULL a_UNKNOWN (i0 &&& (3 : Int32)))), .val (.ref (own_pick a_NOT_NULL a_NULLABLE a_NULL a_UNKNOWN (i1 &&& (3 : Int32)))), .val (.ref (own_pick a_NOT_NULL a_NULLABLE a_NULL a_UNKNOWN i2)), .unset, .unset, .unset, .unset, .unset, .unset, .unset] [(.int (2 : Int32)), (.int (10 : Int32)), (.ref a4), (.ref a4)])
  obtain ⟨T15, h15, X15, e15, W15, st15⟩ := stI X14 hx hZ e14 A14 (j := (10 : Int32)) (own_in (n := 16) rfl (by decide)) (g := (mkF m 80 #[.val (.int i0), .val (.int i1), .val (.int i2), .val (.int (i0 &&& (3 : Int32))), .val (.int (i1 &&& (3 : Int32))), .val (.ref (own_pick a_NOT_NULL a_NULLABLE a_NULL a_UNKNOWN (i0 &&& (3 : Int32)))), .val (.ref (own_pick a_NOT_NULL a_NULLABLE a_NULL a_UNKNOWN (i1 &&& (3 : Int32)))), .val (.ref (own_pick a_NOT_NULL a_NULLABLE a_NULL a_UNKNOWN i2)), .unset, .unset, .unset, .unset, .unset, .unset, .unset] [(.int (2 : Int32)), (.int (10 : Int32)), (.ref a4), (.ref a4)])) rfl rfl (hb hby at_80)
  have A15 : Arr Z h15 a4 (own_cell c4 #[(.int (0 : Int32)), (.int (1 : Int32)), (.int (3 : Int32)), (.int (3 : Int32)), (.int (1 : Int32)), (.int (1 : Int32)), (.int (3 : Int32)), (.int (3 : Int32)), (.int (3 : Int32)), (.int (3 : Int32)), (.int (2 : Int32)), (.int 0), (.int 0), (.int 0), (.int 0), (.int 0)]) .int := A14.same W15
  have x15 : Ext h0 h15 := own_ext_wr x14 W15 j4
  have N15 := Fr.snoc X15 N14 (Nat.le_trans Z0 j4)
  refine own_go st15 ?_
  show own_G p e below _ T15 (mkF m 81 #[.val (.int i0), .val (.int i1), .val (.int i2), .val (.int (i0 &&& (3 : Int32))), .val (.int (i1 &&& (3 : Int32))), .val (.ref (own_pick a_NOT_NULL a_NULLABLE a_NULL a_UNKNOWN (i0 &&& (3 : Int32)))), .val (.ref (own_pick a_NOT_NULL a_NULLABLE a_NULL a_UNKNOWN (i1 &&& (3 : Int32)))), .val (.ref (own_pick a_NOT_NULL a_NULLABLE a_NULL a_UNKNOWN i2)), .unset, .unset, .unset, .unset, .unset, .unset, .unset] [(.ref a4)])
  refine own_go (fun t k => XS.dup X15.here hx rfl (hb hby at_81) rfl rfl k) ?_
  show own_G p e below _ T15 (mkF m 82 #[.val (.int i0), .val (.int i1), .val (.int i2), .val (.int (i0 &&& (3 : Int32))), .val (.int (i1 &&& (3 : Int32))), .val (.ref (own_pick a_NOT_NULL a_NULLABLE a_NULL a_UNKNOWN (i0 &&& (3 : Int32)))), .val (.ref (own_pick a_NOT_NULL a_NULLABLE a_NULL a_UNKNOWN (i1 &&& (3 : Int32)))), .val (.ref (own_pick a_NOT_NULL a_NULLABLE a_NULL a_UNKNOWN i2)), .unset, .unset, .unset, .unset, .unset, .unset, .unset] [(.ref a4), (.ref a4)])
  refine own_go (fun t k => XS.bipush X15.here hx rfl (hb hby at_82) k) ?_
  show own_G p e below _ T15 (mkF m 84 #[.val (.int i0), .val (.int i1), .val (.int i2), .val (.int (i0 &&& (3 : Int32))), .val (.int (i1 &&& (3 : Int32))), .val (.ref (own_pick a_NOT_NULL a_NULLABLE a_NULL a_UNKNOWN (i0 &&& (3 : Int32)))), .val (.ref (own_pick a_NOT_NULL a_NULLABLE a_NULL a_UNKNOWN (i1 &&& (3 : Int32)))), .val (.ref (own_pick a_NOT_NULL a_NULLABLE a_NULL a_UNKNOWN i2)), .unset, .unset, .unset, .unset, .unset, .unset, .unset] [(.int (11 : Int32)), (.ref a4), (.ref a4)])
  refine own_go (fun t k => XS.iconst X15.here hx rfl (hb hby at_84) k) ?_
  show own_G p e below _ T15 (mkF m 85 #[.val (.int i0), .val (.int i1), .val (.int i2), .val (.int (i0 &&& (3 : Int32))), .val (.int (i1 &&& (3 : Int32))), .val (.ref (own_pick a_NOT_NULL a_NULLABLE a_NULL a_UNKNOWN (i0 &&& (3 : Int32)))), .val (.ref (own_pick a_NOT_NULL a_NULLABLE a_NULL a_UNKNOWN (i1 &&& (3 : Int32)))), .val (.ref (own_pick a_NOT_NULL a_NULLABLE a_NULL a_UNKNOWN i2)), .unset, .unset, .unset, .unset, .unset, .unset, .unset] [(.int (3 : Int32)), (.int (11 : Int32)), (.ref a4), (.ref a4)])
  obtain ⟨T16, h16, X16, e16, W16, st16⟩ := stI X15 hx hZ e15 A15 (j := (11 : Int32)) (own_in (n := 16) rfl (by decide)) (g := (mkF m 85 #[.val (.int i0), .val (.int i1), .val (.int i2), .val (.int (i0 &&& (3 : Int32))), .val (.int (i1 &&& (3 : Int32))), .val (.ref (own_pick a_NOT_NULL a_NULLABLE a_NULL a_UNKNOWN (i0 &&& (3 : Int32)))), .val (.ref (own_pick a_NOT_NULL a_NULLABLE a_NULL a_UNKNOWN (i1 &&& (3 : Int32)))), .val (.ref (own_pick a_NOT_NULL a_NULLABLE a_NULL a_UNKNOWN i2)), .unset, .unset, .unset, .unset, .unset, .unset, .unset] [(.int (3 : Int32)), (.int (11 : Int32)), (.ref a4), (.ref a4)])) rfl rfl (hb hby at_85)
  have A16 : Arr Z h16 a4 (own_cell c4 #[(.int (0 : Int32)), (.int (1 : Int32)), (.int (3 : Int32)), (.int (3 : Int32)), (.int (1 : Int32)), (.int (1 : Int32)), (.int (3 : Int32)), (.int (3 : Int32)), (.int (3 : Int32)), (.int (3 : Int32)), (.int (2 : Int32)), (.int (3 : Int32)), (.int 0), (.int 0), (.int 0), (.int 0)]) .int := A15.same W16
  have x16 : Ext h0 h16 := own_ext_wr x15 W16 j4
  have N16 := Fr.snoc X16 N15 (Nat.le_trans Z0 j4)
  refine own_go st16 ?_
  show own_G p e below _ T16 (mkF m 86 #[.val (.int i0), .val (.int i1), .val (.int i2), .val (.int (i0 &&& (3 : Int32))), .val (.int (i1 &&& (3 : Int32))), .val (.ref (own_pick a_NOT_NULL a_NULLABLE a_NULL a_UNKNOWN (i0 &&& (3 : Int32)))), .val (.ref (own_pick a_NOT_NULL a_NULLABLE a_NULL a_UNKNOWN (i1 &&& (3 : Int32)))), .val (.ref (own_pick a_NOT_NULL a_NULLABLE a_NULL a_UNKNOWN i2)), .unset, .unset, .unset, .unset, .unset, .unset, .unset] [(.ref a4)])
  refine own_go (fun t k => XS.dup X16.here hx rfl (hb hby at_86) rfl rfl k) ?_
  show own_G p e below _ T16 (mkF m 87 #[.val (.int i0), .val (.int i1), .val (.int i2), .val (.int (i0 &&& (3 : Int32))), .val (.int (i1 &&& (3 : Int32))), .val (.ref (own_pick a_NOT_NULL a_NULLABLE a_NULL a_UNKNOWN (i0 &&& (3 : Int32)))), .val (.ref (own_pick a_NOT_NULL a_NULLABLE a_NULL a_UNKNOWN (i1 &&& (3 : Int32)))), .val (.ref (own_pick a_NOT_NULL a_NULLABLE a_NULL a_UNKNOWN i2)), .unset, .unset, .unset, .unset, .unset, .unset, .unset] [(.ref a4), (.ref a4)])
  refine own_go (fun t k => XS.bipush X16.here hx rfl (hb hby at_87) k) ?_
  show own_G p e below _ T16 (mkF m 89 #[.val (.int i0), .val (.int i1), .val (.int i2), .val (.int (i0 &&& (3 : Int32))), .val (.int (i1 &&& (3 : Int32))), .val (.ref (own_pick a_NOT_NULL a_NULLABLE a_NULL a_UNKNOWN (i0 &&& (3 : Int32)))), .val (.ref (own_pick a_NOT_NULL a_NULLABLE a_NULL a_UNKNOWN (i1 &&& (3 : Int32)))), .val (.ref (own_pick a_NOT_NULL a_NULLABLE a_NULL a_UNKNOWN i2)), .unset, .unset, .unset, .unset, .unset, .unset, .unset] [(.int (12 : Int32)), (.ref a4), (.ref a4)])
  refine own_go (fun t k => XS.iconst X16.here hx rfl (hb hby at_89) k) ?_
  show own_G p e below _ T16 (mkF m 90 #[.val (.int i0), .val (.int i1), .val (.int i2), .val (.int (i0 &&& (3 : Int32))), .val (.int (i1 &&& (3 : Int32))), .val (.ref (own_pick a_NOT_NULL a_NULLABLE a_NULL a_UNKNOWN (i0 &&& (3 : Int32)))), .val (.ref (own_pick a_NOT_NULL a_NULLABLE a_NULL a_UNKNOWN (i1 &&& (3 : Int32)))), .val (.ref (own_pick a_NOT_NULL a_NULLABLE a_NULL a_UNKNOWN i2)), .unset, .unset, .unset, .unset, .unset, .unset, .unset] [(.int (3 : Int32)), (.int (12 : Int32)), (.ref a4), (.ref a4)])
  obtain ⟨T17, h17, X17, e17, W17, st17⟩ := stI X16 hx hZ e16 A16 (j := (12 : Int32)) (own_in (n := 16) rfl (by decide)) (g := (mkF m 90 #[.val (.int i0), .val (.int i1), .val (.int i2), .val (.int (i0 &&& (3 : Int32))), .val (.int (i1 &&& (3 : Int32))), .val (.ref (own_pick a_NOT_NULL a_NULLABLE a_NULL a_UNKNOWN (i0 &&& (3 : Int32)))), .val (.ref (own_pick a_NOT_NULL a_NULLABLE a_NULL a_UNKNOWN (i1 &&& (3 : Int32)))), .val (.ref (own_pick a_NOT_NULL a_NULLABLE a_NULL a_UNKNOWN i2)), .unset, .unset, .unset, .unset, .unset, .unset, .unset] [(.int (3 : Int32)), (.int (12 : Int32)), (.ref a4), (.ref a4)])) rfl rfl (hb hby at_90)
  have A17 : Arr Z h17 a4 (own_cell c4 #[(.int (0 : Int32)), (.int (1 : Int32)), (.int (3 : Int32)), (.int (3 : Int32)), (.int (1 : Int32)), (.int (1 : Int32)), (.int (3 : Int32)), (.int (3 : Int32)), (.int (3 : Int32)), (.int (3 : Int32)), (.int (2 : Int32)), (.int (3 : Int32)), (.int (3 : Int32)), (.int 0), (.int 0), (.int 0)]) .int := A16.same W17
  have x17 : Ext h0 h17 := own_ext_wr x16 W17 j4
  have N17 := Fr.snoc X17 N16 (Nat.le_trans Z0 j4)
  refine own_go st17 ?_
  show own_G p e below _ T17 (mkF m 91 #[.val (.int i0), .val (.int i1), .val (.int i2), .val (.int (i0 &&& (3 : Int32))), .val (.int (i1 &&& (3 : Int32))), .val (.ref (own_pick a_NOT_NULL a_NULLABLE a_NULL a_UNKNOWN (i0 &&& (3 : Int32)))), .val (.ref (own_pick a_NOT_NULL a_NULLABLE a_NULL a_UNKNOWN (i1 &&& (3 : Int32)))), .val (.ref (own_pick a_NOT_NULL a_NULLABLE a_NULL a_UNKNOWN i2)), .unset, .unset, .unset, .unset, .unset, .unset, .unset] [(.ref a4)])
  refine own_go (fun t k => XS.dup X17.here hx rfl (hb hby at_91) rfl rfl k) ?_
  show own_G p e below _ T17 (mkF m 92 #[.val (.int i0), .val (.int i1), .val (.int i2), .val (.int (i0 &&& (3 : Int32))), .val (.int (i1 &&& (3 : Int32))), .val (.ref (own_pick a_NOT_NULL a_NULLABLE a_NULL a_UNKNOWN (i0 &&& (3 : Int32)))), .val (.ref (own_pick a_NOT_NULL a_NULLABLE a_NULL a_UNKNOWN (i1 &&& (3 : Int32)))), .val (.ref (own_pick a_NOT_NULL a_NULLABLE a_NULL a_UNKNOWN i2)), .unset, .unset, .unset, .unset, .unset, .unset, .unset] [(.ref a4), (.ref a4)])
  refine own_go (fun t k => XS.bipush X17.here hx rfl (hb hby at_92) k) ?_
  show own_G p e below _ T17 (mkF m 94 #[.val (.int i0), .val (.int i1), .val (.int i2), .val (.int (i0 &&& (3 : Int32))), .val (.int (i1 &&& (3 : Int32))), .val (.ref (own_pick a_NOT_NULL a_NULLABLE a_NULL a_UNKNOWN (i0 &&& (3 : Int32)))), .val (.ref (own_pick a_NOT_NULL a_NULLABLE a_NULL a_UNKNOWN (i1 &&& (3 : Int32)))), .val (.ref (own_pick a_NOT_NULL a_NULLABLE a_NULL a_UNKNOWN i2)), .unset, .unset, .unset, .unset, .unset, .unset, .unset] [(.int (13 : Int32)), (.ref a4), (.ref a4)])
  refine own_go (fun t k => XS.iconst X17.here hx rfl (hb hby at_94) k) ?_
  show own_G p e below _ T17 (mkF m 95 #[.val (.int i0), .val (.int i1), .val (.int i2), .val (.int (i0 &&& (3 : Int32))), .val (.int (i1 &&& (3 : Int32))), .val (.ref (own_pick a_NOT_NULL a_NULLABLE a_NULL a_UNKNOWN (i0 &&& (3 : Int32)))), .val (.ref (own_pick a_NOT_NULL a_NULLABLE a_NULL a_UNKNOWN (i1 &&& (3 : Int32)))), .val (.ref (own_pick a_NOT_NULL a_NULLABLE a_NULL a_UNKNOWN i2)), .unset, .unset, .unset, .unset, .unset, .unset, .unset] [(.int (3 : Int32)), (.int (13 : Int32)), (.ref a4), (.ref a4)])
  obtain ⟨T18, h18, X18, e18, W18, st18⟩ := stI X17 hx hZ e17 A17 (j := (13 : Int32)) (own_in (n := 16) rfl (by decide)) (g := (mkF m 95 #[.val (.int i0), .val (.int i1), .val (.int i2), .val (.int (i0 &&& (3 : Int32))), .val (.int (i1 &&& (3 : Int32))), .val (.ref (own_pick a_NOT_NULL a_NULLABLE a_NULL a_UNKNOWN (i0 &&& (3 : Int32)))), .val (.ref (own_pick a_NOT_NULL a_NULLABLE a_NULL a_UNKNOWN (i1 &&& (3 : Int32)))), .val (.ref (own_pick a_NOT_NULL a_NULLABLE a_NULL a_UNKNOWN i2)), .unset, .unset, .unset, .unset, .unset, .unset, .unset] [(.int (3 : Int32)), (.int (13 : Int32)), (.ref a4), (.ref a4)])) rfl rfl (hb hby at_95)
  have A18 : Arr Z h18 a4 (own_cell c4 #[(.int (0 : Int32)), (.int (1 : Int32)), (.int (3 : Int32)), (.int (3 : Int32)), (.int (1 : Int32)), (.int (1 : Int32)), (.int (3 : Int32)), (.int (3 : Int32)), (.int (3 : Int32)), (.int (3 : Int32)), (.int (2 : Int32)), (.int (3 : Int32)), (.int (3 : Int32)), (.int (3 : Int32)), (.int 0), (.int 0)]) .int := A17.same W18
  have x18 : Ext h0 h18 := own_ext_wr x17 W18 j4
  have N18 := Fr.snoc X18 N17 (Nat.le_trans Z0 j4)
  refine own_go st18 ?_
  show own_G p e below _ T18 (mkF m 96 #[.val (.int i0), .val (.int i1), .val (.int i2), .val (.int (i0 &&& (3 : Int32))), .val (.int (i1 &&& (3 : Int32))), .val (.ref (own_pick a_NOT_NULL a_NULLABLE a_NULL a_UNKNOWN (i0 &&& (3 : Int32)))), .val (.ref (own_pick a_NOT_NULL a_NULLABLE a_NULL a_UNKNOWN (i1 &&& (3 : Int32)))), .val (.ref (own_pick a_NOT_NULL a_NULLABLE a_NULL a_UNKNOWN i2)), .unset, .unset, .unset, .unset, .unset, .unset, .unset] [(.ref a4)])
  refine own_go (fun t k => XS.dup X18.here hx rfl (hb hby at_96) rfl rfl k) ?_
  show own_G p e below _ T18 (mkF m 97 #[.val (.int i0), .val (.int i1), .val (.int i2), .val (.int (i0 &&& (3 : Int32))), .val (.int (i1 &&& (3 : Int32))), .val (.ref (own_pick a_NOT_NULL a_NULLABLE a_NULL a_UNKNOWN (i0 &&& (3 : Int32)))), .val (.ref (own_pick a_NOT_NULL a_NULLABLE a_NULL a_UNKNOWN (i1 &&& (3 : Int32)))), .val (.ref (own_pick a_NOT_NULL a_NULLABLE a_NULL a_UNKNOWN i2)), .unset, .unset, .unset, .unset, .unset, .unset, .unset] [(.ref a4), (.ref a4)])
  refine own_go (fun t k => XS.bipush X18.here hx rfl (hb hby at_97) k) ?_
  show own_G p e below _ T18 (mkF m 99 #[.val (.int i0), .val (.int i1), .val (.int i2), .val (.int (i0 &&& (3 : Int32))), .val (.int (i1 &&& (3 : Int32))), .val (.ref (own_pick a_NOT_NULL a_NULLABLE a_NULL a_UNKNOWN (i0 &&& (3 : Int32)))), .val (.ref (own_pick a_NOT_NULL a_NULLABLE a_NULL a_UNKNOWN (i1 &&& (3 : Int32)))), .val (.ref (own_pick a_NOT_NULL a_NULLABLE a_NULL a_UNKNOWN i2)), .unset, .unset, .unset, .unset, .unset, .unset, .unset] [(.int (14 : Int32)), (.ref a4), (.ref a4)])
  refine own_go (fun t k => XS.iconst X18.here hx rfl (hb hby at_99) k) ?_
  show own_G p e below _ T18 (mkF m 100 #[.val (.int i0), .val (.int i1), .val (.int i2), .val (.int (i0 &&& (3 : Int32))), .val (.int (i1 &&& (3 : Int32))), .val (.ref (own_pick a_NOT_NULL a_NULLABLE a_NULL a_UNKNOWN (i0 &&& (3 : Int32)))), .val (.ref (own_pick a_NOT_NULL a_NULLABLE a_NULL a_UNKNOWN (i1 &&& (3 : Int32)))), .val (.ref (own_pick a_NOT_NULL a_NULLABLE a_NULL a_UNKNOWN i2)), .unset, .unset, .unset, .unset, .unset, .unset, .unset] [(.int (3 : Int32)), (.int (14 : Int32)), (.ref a4), (.ref a4)])
  obtain ⟨T19, h19, X19, e19, W19, st19⟩ := stI X18 hx hZ e18 A18 (j := (14 : Int32)) (own_in (n := 16) rfl (by decide)) (g := (mkF m 100 #[.val (.int i0), .val (.int i1), .val (.int i2), .val (.int (i0 &&& (3 : Int32))), .val (.int (i1 &&& (3 : Int32))), .val (.ref (own_pick a_NOT_NULL a_NULLABLE a_NULL a_UNKNOWN (i0 &&& (3 : Int32)))), .val (.ref (own_pick a_NOT_NULL a_NULLABLE a_NULL a_UNKNOWN (i1 &&& (3 : Int32)))), .val (.ref (own_pick a_NOT_NULL a_NULLABLE a_NULL a_UNKNOWN i2)), .unset, .unset, .unset, .unset, .unset, .unset, .unset] [(.int (3 : Int32)), (.int (14 : Int32)), (.ref a4), (.ref a4)])) rfl rfl (hb hby at_100)
  have A19 : Arr Z h19 a4 (own_cell c4 #[(.int (0 : Int32)), (.int (1 : Int32)), (.int (3 : Int32)), (.int (3 : Int32)), (.int (1 : Int32)), (.int (1 : Int32)), (.int (3 : Int32)), (.int (3 : Int32)), (.int (3 : Int32)), (.int (3 : Int32)), (.int (2 : Int32)), (.int (3 : Int32)), (.int (3 : Int32)), (.int (3 : Int32)), (.int (3 : Int32)), (.int 0)]) .int := A18.same W19
  have x19 : Ext h0 h19 := own_ext_wr x18 W19 j4
  have N19 := Fr.snoc X19 N18 (Nat.le_trans Z0 j4)
  refine own_go st19 ?_
  show own_G p e below _ T19 (mkF m 101 #[.val (.int i0), .val (.int i1), .val (.int i2), .val (.int (i0 &&& (3 : Int32))), .val (.int (i1 &&& (3 : Int32))), .val (.ref (own_pick a_NOT_NULL a_NULLABLE a_NULL a_UNKNOWN (i0 &&& (3 : Int32)))), .val (.ref (own_pick a_NOT_NULL a_NULLABLE a_NULL a_UNKNOWN (i1 &&& (3 : Int32)))), .val (.ref (own_pick a_NOT_NULL a_NULLABLE a_NULL a_UNKNOWN i2)), .unset, .unset, .unset, .unset, .unset, .unset, .unset] [(.ref a4)])
  refine own_go (fun t k => XS.dup X19.here hx rfl (hb hby at_101) rfl rfl k) ?_
  show own_G p e below _ T19 (mkF m 102 #[.val (.int i0), .val (.int i1), .val (.int i2), .val (.int (i0 &&& (3 : Int32))), .val (.int (i1 &&& (3 : Int32))), .val (.ref (own_pick a_NOT_NULL a_NULLABLE a_NULL a_UNKNOWN (i0 &&& (3 : Int32)))), .val (.ref (own_pick a_NOT_NULL a_NULLABLE a_NULL a_UNKNOWN (i1 &&& (3 : Int32)))), .val (.ref (own_pick a_NOT_NULL a_NULLABLE a_NULL a_UNKNOWN i2)), .unset, .unset, .unset, .unset, .unset, .unset, .unset] [(.ref a4), (.ref a4)])
  refine own_go (fun t k => XS.bipush X19.here hx rfl (hb hby at_102) k) ?_
  show own_G p e below _ T19 (mkF m 104 #[.val (.int i0), .val (.int i1), .val (.int i2), .val (.int (i0 &&& (3 : Int32))), .val (.int (i1 &&& (3 : Int32))), .val (.ref (own_pick a_NOT_NULL a_NULLABLE a_NULL a_UNKNOWN (i0 &&& (3 : Int32)))), .val (.ref (own_pick a_NOT_NULL a_NULLABLE a_NULL a_UNKNOWN (i1 &&& (3 : Int32)))), .val (.ref (own_pick a_NOT_NULL a_NULLABLE a_NULL a_UNKNOWN i2)), .unset, .unset, .unset, .unset, .unset, .unset, .unset] [(.int (15 : Int32)), (.ref a4), (.ref a4)])
  refine own_go (fun t k => XS.iconst X19.here hx rfl (hb hby at_104) k) ?_
  show own_G p e below _ T19 (mkF m 105 #[.val (.int i0), .val (.int i1), .val (.int i2), .val (.int (i0 &&& (3 : Int32))), .val (.int (i1 &&& (3 : Int32))), .val (.ref (own_pick a_NOT_NULL a_NULLABLE a_NULL a_UNKNOWN (i0 &&& (3 : Int32)))), .val (.ref (own_pick a_NOT_NULL a_NULLABLE a_NULL a_UNKNOWN (i1 &&& (3 : Int32)))), .val (.ref (own_pick a_NOT_NULL a_NULLABLE a_NULL a_UNKNOWN i2)), .unset, .unset, .unset, .unset, .unset, .unset, .unset] [(.int (3 : Int32)), (.int (15 : Int32)), (.ref a4), (.ref a4)])
  obtain ⟨T20, h20, X20, e20, W20, st20⟩ := stI X19 hx hZ e19 A19 (j := (15 : Int32)) (own_in (n := 16) rfl (by decide)) (g := (mkF m 105 #[.val (.int i0), .val (.int i1), .val (.int i2), .val (.int (i0 &&& (3 : Int32))), .val (.int (i1 &&& (3 : Int32))), .val (.ref (own_pick a_NOT_NULL a_NULLABLE a_NULL a_UNKNOWN (i0 &&& (3 : Int32)))), .val (.ref (own_pick a_NOT_NULL a_NULLABLE a_NULL a_UNKNOWN (i1 &&& (3 : Int32)))), .val (.ref (own_pick a_NOT_NULL a_NULLABLE a_NULL a_UNKNOWN i2)), .unset, .unset, .unset, .unset, .unset, .unset, .unset] [(.int (3 : Int32)), (.int (15 : Int32)), (.ref a4), (.ref a4)])) rfl rfl (hb hby at_105)
  have A20 : Arr Z h20 a4 (own_cell c4 #[(.int (0 : Int32)), (.int (1 : Int32)), (.int (3 : Int32)), (.int (3 : Int32)), (.int (1 : Int32)), (.int (1 : Int32)), (.int (3 : Int32)), (.int (3 : Int32)), (.int (3 : Int32)), (.int (3 : Int32)), (.int (2 : Int32)), (.int (3 : Int32)), (.int (3 : Int32)), (.int (3 : Int32)), (.int (3 : Int32)), (.int (3 : Int32))]) .int := A19.same W20
  have x20 : Ext h0 h20 := own_ext_wr x19 W20 j4
  have N20 := Fr.snoc X20 N19 (Nat.le_trans Z0 j4)
  refine own_go st20 ?_
  show own_G p e below _ T20 (mkF m 106 #[.val (.int i0), .val (.int i1), .val (.int i2), .val (.int (i0 &&& (3 : Int32))), .val (.int (i1 &&& (3 : Int32))), .val (.ref (own_pick a_NOT_NULL a_NULLABLE a_NULL a_UNKNOWN (i0 &&& (3 : Int32)))), .val (.ref (own_pick a_NOT_NULL a_NULLABLE a_NULL a_UNKNOWN (i1 &&& (3 : Int32)))), .val (.ref (own_pick a_NOT_NULL a_NULLABLE a_NULL a_UNKNOWN i2)), .unset, .unset, .unset, .unset, .unset, .unset, .unset] [(.ref a4)])
  refine own_go (fun t k => XS.astore X20.here hx rfl (hb hby at_106) rfl rfl (l' := #[.val (.int i0), .val (.int i1), .val (.int i2), .val (.int (i0 &&& (3 : Int32))), .val (.int (i1 &&& (3 : Int32))), .val (.ref (own_pick a_NOT_NULL a_NULLABLE a_NULL a_UNKNOWN (i0 &&& (3 : Int32)))), .val (.ref (own_pick a_NOT_NULL a_NULLABLE a_NULL a_UNKNOWN (i1 &&& (3 : Int32)))), .val (.ref (own_pick a_NOT_NULL a_NULLABLE a_NULL a_UNKNOWN i2)), .val (.ref a4), .unset, .unset, .unset, .unset, .unset, .unset]) rfl k) ?_
  show own_G p e below _ T20 (mkF m 108 #[.val (.int i0), .val (.int i1), .val (.int i2), .val (.int (i0 &&& (3 : Int32))), .val (.int (i1 &&& (3 : Int32))), .val (.ref (own_pick a_NOT_NULL a_NULLABLE a_NULL a_UNKNOWN (i0 &&& (3 : Int32)))), .val (.ref (own_pick a_NOT_NULL a_NULLABLE a_NULL a_UNKNOWN (i1 &&& (3 : Int32)))), .val (.ref (own_pick a_NOT_NULL a_NULLABLE a_NULL a_UNKNOWN i2)), .val (.ref a4), .unset, .unset, .unset, .unset, .unset, .unset] [])
  refine own_go (fun t k => XS.aload X20.here hx rfl (hb hby at_108) rfl rfl k) ?_
  show own_G p e below _ T20 (mkF m 110 #[.val (.int i0), .val (.int i1), .val (.int i2), .val (.int (i0 &&& (3 : Int32))), .val (.int (i1 &&& (3 : Int32))), .val (.ref (own_pick a_NOT_NULL a_NULLABLE a_NULL a_UNKNOWN (i0 &&& (3 : Int32)))), .val (.ref (own_pick a_NOT_NULL a_NULLABLE a_NULL a_UNKNOWN (i1 &&& (3 : Int32)))), .val (.ref (own_pick a_NOT_NULL a_NULLABLE a_NULL a_UNKNOWN i2)), .val (.ref a4), .unset, .unset, .unset, .unset, .unset, .unset] [(.ref a4)])
  refine own_go (fun t k => XS.iloadN X20.here hx rfl (hb hby at_110) rfl k) ?_
  show own_G p e below _ T20 (mkF m 111 #[.val (.int i0), .val (.int i1), .val (.int i2), .val (.int (i0 &&& (3 : Int32))), .val (.int (i1 &&& (3 : Int32))), .val (.ref (own_pick a_NOT_NULL a_NULLABLE a_NULL a_UNKNOWN (i0 &&& (3 : Int32)))), .val (.ref (own_pick a_NOT_NULL a_NULLABLE a_NULL a_UNKNOWN (i1 &&& (3 : Int32)))), .val (.ref (own_pick a_NOT_NULL a_NULLABLE a_NULL a_UNKNOWN i2)), .val (.ref a4), .unset, .unset, .unset, .unset, .unset, .unset] [(.int (i0 &&& (3 : Int32))), (.ref a4)])
  refine own_go (fun t k => XS.iconst X20.here hx rfl (hb hby at_111) k) ?_
  show own_G p e below _ T20 (mkF m 112 #[.val (.int i0), .val (.int i1), .val (.int i2), .val (.int (i0 &&& (3 : Int32))), .val (.int (i1 &&& (3 : Int32))), .val (.ref (own_pick a_NOT_NULL a_NULLABLE a_NULL a_UNKNOWN (i0 &&& (3 : Int32)))), .val (.ref (own_pick a_NOT_NULL a_NULLABLE a_NULL a_UNKNOWN (i1 &&& (3 : Int32)))), .val (.ref (own_pick a_NOT_NULL a_NULLABLE a_NULL a_UNKNOWN i2)), .val (.ref a4), .unset, .unset, .unset, .unset, .unset, .unset] [(.int (4 : Int32)), (.int (i0 &&& (3 : Int32))), (.ref a4)])
  refine own_go (fun t k => XS.imul X20.here hx rfl (hb hby at_112) rfl k) ?_
  show own_G p e below _ T20 (mkF m 113 #[.val (.int i0), .val (.int i1), .val (.int i2), .val (.int (i0 &&& (3 : Int32))), .val (.int (i1 &&& (3 : Int32))), .val (.ref (own_pick a_NOT_NULL a_NULLABLE a_NULL a_UNKNOWN (i0 &&& (3 : Int32)))), .val (.ref (own_pick a_NOT_NULL a_NULLABLE a_NULL a_UNKNOWN (i1 &&& (3 : Int32)))), .val (.ref (own_pick a_NOT_NULL a_NULLABLE a_NULL a_UNKNOWN i2)), .val (.ref a4), .unset, .unset, .unset, .unset, .unset, .unset] [(.int ((i0 &&& (3 : Int32)) * (4 : Int32))), (.ref a4)])
  refine own_go (fun t k => XS.iload X20.here hx rfl (hb hby at_113) rfl k) ?_
  show own_G p e below _ T20 (mkF m 115 #[.val (.int i0), .val (.int i1), .val (.int i2), .val (.int (i0 &&& (3 : Int32))), .val (.int (i1 &&& (3 : Int32))), .val (.ref (own_pick a_NOT_NULL a_NULLABLE a_NULL a_UNKNOWN (i0 &&& (3 : Int32)))), .val (.ref (own_pick a_NOT_NULL a_NULLABLE a_NULL a_UNKNOWN (i1 &&& (3 : Int32)))), .val (.ref (own_pick a_NOT_NULL a_NULLABLE a_NULL a_UNKNOWN i2)), .val (.ref a4), .unset, .unset, .unset, .unset, .unset, .unset] [(.int (i1 &&& (3 : Int32))), (.int ((i0 &&& (3 : Int32)) * (4 : Int32))), (.ref a4)])
  refine own_go (fun t k => XS.iadd X20.here hx rfl (hb hby at_115) rfl k) ?_
  show own_G p e below _ T20 (mkF m 116 #[.val (.int i0), .val (.int i1), .val (.int i2), .val (.int (i0 &&& (3 : Int32))), .val (.int (i1 &&& (3 : Int32))), .val (.ref (own_pick a_NOT_NULL a_NULLABLE a_NULL a_UNKNOWN (i0 &&& (3 : Int32)))), .val (.ref (own_pick a_NOT_NULL a_NULLABLE a_NULL a_UNKNOWN (i1 &&& (3 : Int32)))), .val (.ref (own_pick a_NOT_NULL a_NULLABLE a_NULL a_UNKNOWN i2)), .val (.ref a4), .unset, .unset, .unset, .unset, .unset, .unset] [(.int (((i0 &&& (3 : Int32)) * (4 : Int32)) + (i1 &&& (3 : Int32)))), (.ref a4)])
  have t21 := own_tab c4 (((i0 &&& (3 : Int32)) * (4 : Int32)) + (i1 &&& (3 : Int32))) (own_ix i0 i1).1 (own_ix i0 i1).2
  refine own_go (X20.iaload hx (j := (((i0 &&& (3 : Int32)) * (4 : Int32)) + (i1 &&& (3 : Int32)))) (v := (.int (own_tv (((i0 &&& (3 : Int32)) * (4 : Int32)) + (i1 &&& (3 : Int32)))))) (own_cellAt e20 A20) (State.isArrayOf_alike hZ.alike A20.2.1) A20.2.2 t21.1 t21.2 (g := (mkF m 116 #[.val (.int i0), .val (.int i1), .val (.int i2), .val (.int (i0 &&& (3 : Int32))), .val (.int (i1 &&& (3 : Int32))), .val (.ref (own_pick a_NOT_NULL a_NULLABLE a_NULL a_UNKNOWN (i0 &&& (3 : Int32)))), .val (.ref (own_pick a_NOT_NULL a_NULLABLE a_NULL a_UNKNOWN (i1 &&& (3 : Int32)))), .val (.ref (own_pick a_NOT_NULL a_NULLABLE a_NULL a_UNKNOWN i2)), .val (.ref a4), .unset, .unset, .unset, .unset, .unset, .unset] [(.int (((i0 &&& (3 : Int32)) * (4 : Int32)) + (i1 &&& (3 : Int32)))), (.ref a4)])) rfl rfl (hb hby at_116)) ?_
  show own_G p e below _ T20 (mkF m 117 #[.val (.int i0), .val (.int i1), .val (.int i2), .val (.int (i0 &&& (3 : Int32))), .val (.int (i1 &&& (3 : Int32))), .val (.ref (own_pick a_NOT_NULL a_NULLABLE a_NULL a_UNKNOWN (i0 &&& (3 : Int32)))), .val (.ref (own_pick a_NOT_NULL a_NULLABLE a_NULL a_UNKNOWN (i1 &&& (3 : Int32)))), .val (.ref (own_pick a_NOT_NULL a_NULLABLE a_NULL a_UNKNOWN i2)), .val (.ref a4), .unset, .unset, .unset, .unset, .unset, .unset] [(.int (own_tv (((i0 &&& (3 : Int32)) * (4 : Int32)) + (i1 &&& (3 : Int32)))))])
  obtain ⟨T22, L22, v22, X22, ⟨rfl, rfl, q22⟩, st22⟩ := own_callS X20 hx hZ (y := (⟨"com/example/nullsight/nullsight/check/NullnessMergePinLaw", "pick", "(I)Lcom/example/nullsight/nullsight/check/Nullness;"⟩ : MethodName)) hown (hw _ (List.mem_of_getElem? (i := 0) rfl)) (hw _ (List.mem_of_getElem? (i := 1) rfl)) (hw _ (List.mem_of_getElem? (i := 2) rfl)) (hw _ (List.mem_of_getElem? (i := 3) rfl)) (by decide) (c_pick l Z a0 hw a_NOT_NULL a_NULLABLE a_NULL a_UNKNOWN (own_tv (((i0 &&& (3 : Int32)) * (4 : Int32)) + (i1 &&& (3 : Int32)))) h20 (own_B_ext x20 B) ) e20 (argsL := [(.int (own_tv (((i0 &&& (3 : Int32)) * (4 : Int32)) + (i1 &&& (3 : Int32)))))]) (rest := []) (g := (mkF m 117 #[.val (.int i0), .val (.int i1), .val (.int i2), .val (.int (i0 &&& (3 : Int32))), .val (.int (i1 &&& (3 : Int32))), .val (.ref (own_pick a_NOT_NULL a_NULLABLE a_NULL a_UNKNOWN (i0 &&& (3 : Int32)))), .val (.ref (own_pick a_NOT_NULL a_NULLABLE a_NULL a_UNKNOWN (i1 &&& (3 : Int32)))), .val (.ref (own_pick a_NOT_NULL a_NULLABLE a_NULL a_UNKNOWN i2)), .val (.ref a4), .unset, .unset, .unset, .unset, .unset, .unset] [(.int (own_tv (((i0 &&& (3 : Int32)) * (4 : Int32)) + (i1 &&& (3 : Int32)))))])) rfl (by rw [hml]; rfl) (ps := [.int]) (r := (some (.object "com/example/nullsight/nullsight/check/Nullness"))) (by decide +kernel) rfl rfl (W := 0) (by show 2 * 0 + _ ≤ _; exact Nat.le_of_eq rfl) (hb hby at_117) (by decide) (by decide) (by decide) (by decide)
  have N22 := Fr.app N20 (Fr.nil n0)
  refine own_go st22 ?_
  show own_G p e below _ T22 (mkF m 120 #[.val (.int i0), .val (.int i1), .val (.int i2), .val (.int (i0 &&& (3 : Int32))), .val (.int (i1 &&& (3 : Int32))), .val (.ref (own_pick a_NOT_NULL a_NULLABLE a_NULL a_UNKNOWN (i0 &&& (3 : Int32)))), .val (.ref (own_pick a_NOT_NULL a_NULLABLE a_NULL a_UNKNOWN (i1 &&& (3 : Int32)))), .val (.ref (own_pick a_NOT_NULL a_NULLABLE a_NULL a_UNKNOWN i2)), .val (.ref a4), .unset, .unset, .unset, .unset, .unset, .unset] [(.ref (own_pick a_NOT_NULL a_NULLABLE a_NULL a_UNKNOWN (own_tv (((i0 &&& (3 : Int32)) * (4 : Int32)) + (i1 &&& (3 : Int32))))))])
  refine own_go (fun t k => XS.astore X22.here hx rfl (hb hby at_120) rfl rfl (l' := #[.val (.int i0), .val (.int i1), .val (.int i2), .val (.int (i0 &&& (3 : Int32))), .val (.int (i1 &&& (3 : Int32))), .val (.ref (own_pick a_NOT_NULL a_NULLABLE a_NULL a_UNKNOWN (i0 &&& (3 : Int32)))), .val (.ref (own_pick a_NOT_NULL a_NULLABLE a_NULL a_UNKNOWN (i1 &&& (3 : Int32)))), .val (.ref (own_pick a_NOT_NULL a_NULLABLE a_NULL a_UNKNOWN i2)), .val (.ref a4), .val (.ref (own_pick a_NOT_NULL a_NULLABLE a_NULL a_UNKNOWN (own_tv (((i0 &&& (3 : Int32)) * (4 : Int32)) + (i1 &&& (3 : Int32)))))), .unset, .unset, .unset, .unset, .unset]) rfl k) ?_
  show own_G p e below _ T22 (mkF m 122 #[.val (.int i0), .val (.int i1), .val (.int i2), .val (.int (i0 &&& (3 : Int32))), .val (.int (i1 &&& (3 : Int32))), .val (.ref (own_pick a_NOT_NULL a_NULLABLE a_NULL a_UNKNOWN (i0 &&& (3 : Int32)))), .val (.ref (own_pick a_NOT_NULL a_NULLABLE a_NULL a_UNKNOWN (i1 &&& (3 : Int32)))), .val (.ref (own_pick a_NOT_NULL a_NULLABLE a_NULL a_UNKNOWN i2)), .val (.ref a4), .val (.ref (own_pick a_NOT_NULL a_NULLABLE a_NULL a_UNKNOWN (own_tv (((i0 &&& (3 : Int32)) * (4 : Int32)) + (i1 &&& (3 : Int32)))))), .unset, .unset, .unset, .unset, .unset] [])
  refine own_go (fun t k => XS.aload X22.here hx rfl (hb hby at_122) rfl rfl k) ?_
  show own_G p e below _ T22 (mkF m 124 #[.val (.int i0), .val (.int i1), .val (.int i2), .val (.int (i0 &&& (3 : Int32))), .val (.int (i1 &&& (3 : Int32))), .val (.ref (own_pick a_NOT_NULL a_NULLABLE a_NULL a_UNKNOWN (i0 &&& (3 : Int32)))), .val (.ref (own_pick a_NOT_NULL a_NULLABLE a_NULL a_UNKNOWN (i1 &&& (3 : Int32)))), .val (.ref (own_pick a_NOT_NULL a_NULLABLE a_NULL a_UNKNOWN i2)), .val (.ref a4), .val (.ref (own_pick a_NOT_NULL a_NULLABLE a_NULL a_UNKNOWN (own_tv (((i0 &&& (3 : Int32)) * (4 : Int32)) + (i1 &&& (3 : Int32)))))), .unset, .unset, .unset, .unset, .unset] [(.ref (own_pick a_NOT_NULL a_NULLABLE a_NULL a_UNKNOWN (i0 &&& (3 : Int32))))])
  refine own_go (fun t k => XS.aload X22.here hx rfl (hb hby at_124) rfl rfl k) ?_
  show own_G p e below _ T22 (mkF m 126 #[.val (.int i0), .val (.int i1), .val (.int i2), .val (.int (i0 &&& (3 : Int32))), .val (.int (i1 &&& (3 : Int32))), .val (.ref (own_pick a_NOT_NULL a_NULLABLE a_NULL a_UNKNOWN (i0 &&& (3 : Int32)))), .val (.ref (own_pick a_NOT_NULL a_NULLABLE a_NULL a_UNKNOWN (i1 &&& (3 : Int32)))), .val (.ref (own_pick a_NOT_NULL a_NULLABLE a_NULL a_UNKNOWN i2)), .val (.ref a4), .val (.ref (own_pick a_NOT_NULL a_NULLABLE a_NULL a_UNKNOWN (own_tv (((i0 &&& (3 : Int32)) * (4 : Int32)) + (i1 &&& (3 : Int32)))))), .unset, .unset, .unset, .unset, .unset] [(.ref (own_pick a_NOT_NULL a_NULLABLE a_NULL a_UNKNOWN (i1 &&& (3 : Int32)))), (.ref (own_pick a_NOT_NULL a_NULLABLE a_NULL a_UNKNOWN (i0 &&& (3 : Int32))))])
  obtain ⟨T23, L23, v23, X23, ⟨rfl, rfl, q23⟩, st23⟩ := own_callV X22 hx hZ (y := (⟨"com/example/nullsight/nullsight/check/Nullness", "merge", "(Lcom/example/nullsight/nullsight/check/Nullness;)Lcom/example/nullsight/nullsight/check/Nullness;"⟩ : MethodName)) (z := (⟨"com/example/nullsight/nullsight/check/Nullness", "merge", "(Lcom/example/nullsight/nullsight/check/Nullness;)Lcom/example/nullsight/nullsight/check/Nullness;"⟩ : MethodName)) hown (hw _ (List.mem_of_getElem? (i := 12) rfl)) (hw _ (List.mem_of_getElem? (i := 13) rfl)) (hw _ (List.mem_of_getElem? (i := 15) rfl)) (hw _ (List.mem_of_getElem? (i := 15) rfl)) (hw _ (List.mem_of_getElem? (i := 14) rfl)) (hw _ (List.mem_of_getElem? (i := 16) rfl)) (hw _ (List.mem_of_getElem? (i := 5) rfl)) (notFace_of_selects (args := #[]) (mvT hZ (hw _ (List.mem_of_getElem? (i := 15) rfl)))) (by decide) (c_merge l Z a0 hw a_NOT_NULL a_NULLABLE a_NULL a_UNKNOWN (own_pick a_NOT_NULL a_NULLABLE a_NULL a_UNKNOWN (i0 &&& (3 : Int32))) (own_pick a_NOT_NULL a_NULLABLE a_NULL a_UNKNOWN (i1 &&& (3 : Int32))) h20 (own_B_ext x20 B) ) q22 (own_pick_exa (own_B_ext x20 B) (i0 &&& (3 : Int32))) (argsL := [(.ref (own_pick a_NOT_NULL a_NULLABLE a_NULL a_UNKNOWN (i1 &&& (3 : Int32))))]) (rest := []) (g := (mkF m 126 #[.val (.int i0), .val (.int i1), .val (.int i2), .val (.int (i0 &&& (3 : Int32))), .val (.int (i1 &&& (3 : Int32))), .val (.ref (own_pick a_NOT_NULL a_NULLABLE a_NULL a_UNKNOWN (i0 &&& (3 : Int32)))), .val (.ref (own_pick a_NOT_NULL a_NULLABLE a_NULL a_UNKNOWN (i1 &&& (3 : Int32)))), .val (.ref (own_pick a_NOT_NULL a_NULLABLE a_NULL a_UNKNOWN i2)), .val (.ref a4), .val (.ref (own_pick a_NOT_NULL a_NULLABLE a_NULL a_UNKNOWN (own_tv (((i0 &&& (3 : Int32)) * (4 : Int32)) + (i1 &&& (3 : Int32)))))), .unset, .unset, .unset, .unset, .unset] [(.ref (own_pick a_NOT_NULL a_NULLABLE a_NULL a_UNKNOWN (i1 &&& (3 : Int32)))), (.ref (own_pick a_NOT_NULL a_NULLABLE a_NULL a_UNKNOWN (i0 &&& (3 : Int32))))])) rfl (by rw [hml]; rfl) (ps := [(.object "com/example/nullsight/nullsight/check/Nullness")]) (r := (some (.object "com/example/nullsight/nullsight/check/Nullness"))) (by decide +kernel) rfl rfl (W := 0) (by show 2 * 0 + _ ≤ _; exact Nat.le_of_eq rfl) (hb hby at_126) (by decide) (by decide) (by decide) (by decide)
  have N23 := Fr.app N22 (Fr.nil n0)
  refine own_go st23 ?_
  show own_G p e below _ T23 (mkF m 129 #[.val (.int i0), .val (.int i1), .val (.int i2), .val (.int (i0 &&& (3 : Int32))), .val (.int (i1 &&& (3 : Int32))), .val (.ref (own_pick a_NOT_NULL a_NULLABLE a_NULL a_UNKNOWN (i0 &&& (3 : Int32)))), .val (.ref (own_pick a_NOT_NULL a_NULLABLE a_NULL a_UNKNOWN (i1 &&& (3 : Int32)))), .val (.ref (own_pick a_NOT_NULL a_NULLABLE a_NULL a_UNKNOWN i2)), .val (.ref a4), .val (.ref (own_pick a_NOT_NULL a_NULLABLE a_NULL a_UNKNOWN (own_tv (((i0 &&& (3 : Int32)) * (4 : Int32)) + (i1 &&& (3 : Int32)))))), .unset, .unset, .unset, .unset, .unset] [(.ref (own_merge a_NOT_NULL a_NULLABLE a_NULL a_UNKNOWN (own_pick a_NOT_NULL a_NULLABLE a_NULL a_UNKNOWN (i0 &&& (3 : Int32))) (own_pick a_NOT_NULL a_NULLABLE a_NULL a_UNKNOWN (i1 &&& (3 : Int32)))))])
  refine own_go (fun t k => XS.astore X23.here hx rfl (hb hby at_129) rfl rfl (l' := #[.val (.int i0), .val (.int i1), .val (.int i2), .val (.int (i0 &&& (3 : Int32))), .val (.int (i1 &&& (3 : Int32))), .val (.ref (own_pick a_NOT_NULL a_NULLABLE a_NULL a_UNKNOWN (i0 &&& (3 : Int32)))), .val (.ref (own_pick a_NOT_NULL a_NULLABLE a_NULL a_UNKNOWN (i1 &&& (3 : Int32)))), .val (.ref (own_pick a_NOT_NULL a_NULLABLE a_NULL a_UNKNOWN i2)), .val (.ref a4), .val (.ref (own_pick a_NOT_NULL a_NULLABLE a_NULL a_UNKNOWN (own_tv (((i0 &&& (3 : Int32)) * (4 : Int32)) + (i1 &&& (3 : Int32)))))), .val (.ref (own_merge a_NOT_NULL a_NULLABLE a_NULL a_UNKNOWN (own_pick a_NOT_NULL a_NULLABLE a_NULL a_UNKNOWN (i0 &&& (3 : Int32))) (own_pick a_NOT_NULL a_NULLABLE a_NULL a_UNKNOWN (i1 &&& (3 : Int32))))), .unset, .unset, .unset, .unset]) rfl k) ?_
  show own_G p e below _ T23 (mkF m 131 #[.val (.int i0), .val (.int i1), .val (.int i2), .val (.int (i0 &&& (3 : Int32))), .val (.int (i1 &&& (3 : Int32))), .val (.ref (own_pick a_NOT_NULL a_NULLABLE a_NULL a_UNKNOWN (i0 &&& (3 : Int32)))), .val (.ref (own_pick a_NOT_NULL a_NULLABLE a_NULL a_UNKNOWN (i1 &&& (3 : Int32)))), .val (.ref (own_pick a_NOT_NULL a_NULLABLE a_NULL a_UNKNOWN i2)), .val (.ref a4), .val (.ref (own_pick a_NOT_NULL a_NULLABLE a_NULL a_UNKNOWN (own_tv (((i0 &&& (3 : Int32)) * (4 : Int32)) + (i1 &&& (3 : Int32)))))), .val (.ref (own_merge a_NOT_NULL a_NULLABLE a_NULL a_UNKNOWN (own_pick a_NOT_NULL a_NULLABLE a_NULL a_UNKNOWN (i0 &&& (3 : Int32))) (own_pick a_NOT_NULL a_NULLABLE a_NULL a_UNKNOWN (i1 &&& (3 : Int32))))), .unset, .unset, .unset, .unset] [])
  refine own_go (fun t k => XS.aload X23.here hx rfl (hb hby at_131) rfl rfl k) ?_
  show own_G p e below _ T23 (mkF m 133 #[.val (.int i0), .val (.int i1), .val (.int i2), .val (.int (i0 &&& (3 : Int32))), .val (.int (i1 &&& (3 : Int32))), .val (.ref (own_pick a_NOT_NULL a_NULLABLE a_NULL a_UNKNOWN (i0 &&& (3 : Int32)))), .val (.ref (own_pick a_NOT_NULL a_NULLABLE a_NULL a_UNKNOWN (i1 &&& (3 : Int32)))), .val (.ref (own_pick a_NOT_NULL a_NULLABLE a_NULL a_UNKNOWN i2)), .val (.ref a4), .val (.ref (own_pick a_NOT_NULL a_NULLABLE a_NULL a_UNKNOWN (own_tv (((i0 &&& (3 : Int32)) * (4 : Int32)) + (i1 &&& (3 : Int32)))))), .val (.ref (own_merge a_NOT_NULL a_NULLABLE a_NULL a_UNKNOWN (own_pick a_NOT_NULL a_NULLABLE a_NULL a_UNKNOWN (i0 &&& (3 : Int32))) (own_pick a_NOT_NULL a_NULLABLE a_NULL a_UNKNOWN (i1 &&& (3 : Int32))))), .unset, .unset, .unset, .unset] [(.ref (own_pick a_NOT_NULL a_NULLABLE a_NULL a_UNKNOWN (i1 &&& (3 : Int32))))])
  refine own_go (fun t k => XS.aload X23.here hx rfl (hb hby at_133) rfl rfl k) ?_
  show own_G p e below _ T23 (mkF m 135 #[.val (.int i0), .val (.int i1), .val (.int i2), .val (.int (i0 &&& (3 : Int32))), .val (.int (i1 &&& (3 : Int32))), .val (.ref (own_pick a_NOT_NULL a_NULLABLE a_NULL a_UNKNOWN (i0 &&& (3 : Int32)))), .val (.ref (own_pick a_NOT_NULL a_NULLABLE a_NULL a_UNKNOWN (i1 &&& (3 : Int32)))), .val (.ref (own_pick a_NOT_NULL a_NULLABLE a_NULL a_UNKNOWN i2)), .val (.ref a4), .val (.ref (own_pick a_NOT_NULL a_NULLABLE a_NULL a_UNKNOWN (own_tv (((i0 &&& (3 : Int32)) * (4 : Int32)) + (i1 &&& (3 : Int32)))))), .val (.ref (own_merge a_NOT_NULL a_NULLABLE a_NULL a_UNKNOWN (own_pick a_NOT_NULL a_NULLABLE a_NULL a_UNKNOWN (i0 &&& (3 : Int32))) (own_pick a_NOT_NULL a_NULLABLE a_NULL a_UNKNOWN (i1 &&& (3 : Int32))))), .unset, .unset, .unset, .unset] [(.ref (own_pick a_NOT_NULL a_NULLABLE a_NULL a_UNKNOWN (i0 &&& (3 : Int32)))), (.ref (own_pick a_NOT_NULL a_NULLABLE a_NULL a_UNKNOWN (i1 &&& (3 : Int32))))])
  obtain ⟨T24, L24, v24, X24, ⟨rfl, rfl, q24⟩, st24⟩ := own_callV X23 hx hZ (y := (⟨"com/example/nullsight/nullsight/check/Nullness", "merge", "(Lcom/example/nullsight/nullsight/check/Nullness;)Lcom/example/nullsight/nullsight/check/Nullness;"⟩ : MethodName)) (z := (⟨"com/example/nullsight/nullsight/check/Nullness", "merge", "(Lcom/example/nullsight/nullsight/check/Nullness;)Lcom/example/nullsight/nullsight/check/Nullness;"⟩ : MethodName)) hown (hw _ (List.mem_of_getElem? (i := 12) rfl)) (hw _ (List.mem_of_getElem? (i := 13) rfl)) (hw _ (List.mem_of_getElem? (i := 15) rfl)) (hw _ (List.mem_of_getElem? (i := 15) rfl)) (hw _ (List.mem_of_getElem? (i := 14) rfl)) (hw _ (List.mem_of_getElem? (i := 16) rfl)) (hw _ (List.mem_of_getElem? (i := 5) rfl)) (notFace_of_selects (args := #[]) (mvT hZ (hw _ (List.mem_of_getElem? (i := 15) rfl)))) (by decide) (c_merge l Z a0 hw a_NOT_NULL a_NULLABLE a_NULL a_UNKNOWN (own_pick a_NOT_NULL a_NULLABLE a_NULL a_UNKNOWN (i1 &&& (3 : Int32))) (own_pick a_NOT_NULL a_NULLABLE a_NULL a_UNKNOWN (i0 &&& (3 : Int32))) h20 (own_B_ext x20 B) ) q23 (own_pick_exa (own_B_ext x20 B) (i1 &&& (3 : Int32))) (argsL := [(.ref (own_pick a_NOT_NULL a_NULLABLE a_NULL a_UNKNOWN (i0 &&& (3 : Int32))))]) (rest := []) (g := (mkF m 135 #[.val (.int i0), .val (.int i1), .val (.int i2), .val (.int (i0 &&& (3 : Int32))), .val (.int (i1 &&& (3 : Int32))), .val (.ref (own_pick a_NOT_NULL a_NULLABLE a_NULL a_UNKNOWN (i0 &&& (3 : Int32)))), .val (.ref (own_pick a_NOT_NULL a_NULLABLE a_NULL a_UNKNOWN (i1 &&& (3 : Int32)))), .val (.ref (own_pick a_NOT_NULL a_NULLABLE a_NULL a_UNKNOWN i2)), .val (.ref a4), .val (.ref (own_pick a_NOT_NULL a_NULLABLE a_NULL a_UNKNOWN (own_tv (((i0 &&& (3 : Int32)) * (4 : Int32)) + (i1 &&& (3 : Int32)))))), .val (.ref (own_merge a_NOT_NULL a_NULLABLE a_NULL a_UNKNOWN (own_pick a_NOT_NULL a_NULLABLE a_NULL a_UNKNOWN (i0 &&& (3 : Int32))) (own_pick a_NOT_NULL a_NULLABLE a_NULL a_UNKNOWN (i1 &&& (3 : Int32))))), .unset, .unset, .unset, .unset] [(.ref (own_pick a_NOT_NULL a_NULLABLE a_NULL a_UNKNOWN (i0 &&& (3 : Int32)))), (.ref (own_pick a_NOT_NULL a_NULLABLE a_NULL a_UNKNOWN (i1 &&& (3 : Int32))))])) rfl (by rw [hml]; rfl) (ps := [(.object "com/example/nullsight/nullsight/check/Nullness")]) (r := (some (.object "com/example/nullsight/nullsight/check/Nullness"))) (by decide +kernel) rfl rfl (W := 0) (by show 2 * 0 + _ ≤ _; exact Nat.le_of_eq rfl) (hb hby at_135) (by decide) (by decide) (by decide) (by decide)
  have N24 := Fr.app N23 (Fr.nil n0)
  refine own_go st24 ?_
  show own_G p e below _ T24 (mkF m 138 #[.val (.int i0), .val (.int i1), .val (.int i2), .val (.int (i0 &&& (3 : Int32))), .val (.int (i1 &&& (3 : Int32))), .val (.ref (own_pick a_NOT_NULL a_NULLABLE a_NULL a_UNKNOWN (i0 &&& (3 : Int32)))), .val (.ref (own_pick a_NOT_NULL a_NULLABLE a_NULL a_UNKNOWN (i1 &&& (3 : Int32)))), .val (.ref (own_pick a_NOT_NULL a_NULLABLE a_NULL a_UNKNOWN i2)), .val (.ref a4), .val (.ref (own_pick a_NOT_NULL a_NULLABLE a_NULL a_UNKNOWN (own_tv (((i0 &&& (3 : Int32)) * (4 : Int32)) + (i1 &&& (3 : Int32)))))), .val (.ref (own_merge a_NOT_NULL a_NULLABLE a_NULL a_UNKNOWN (own_pick a_NOT_NULL a_NULLABLE a_NULL a_UNKNOWN (i0 &&& (3 : Int32))) (own_pick a_NOT_NULL a_NULLABLE a_NULL a_UNKNOWN (i1 &&& (3 : Int32))))), .unset, .unset, .unset, .unset] [(.ref (own_merge a_NOT_NULL a_NULLABLE a_NULL a_UNKNOWN (own_pick a_NOT_NULL a_NULLABLE a_NULL a_UNKNOWN (i1 &&& (3 : Int32))) (own_pick a_NOT_NULL a_NULLABLE a_NULL a_UNKNOWN (i0 &&& (3 : Int32)))))])
  refine own_go (fun t k => XS.astore X24.here hx rfl (hb hby at_138) rfl rfl (l' := #[.val (.int i0), .val (.int i1), .val (.int i2), .val (.int (i0 &&& (3 : Int32))), .val (.int (i1 &&& (3 : Int32))), .val (.ref (own_pick a_NOT_NULL a_NULLABLE a_NULL a_UNKNOWN (i0 &&& (3 : Int32)))), .val (.ref (own_pick a_NOT_NULL a_NULLABLE a_NULL a_UNKNOWN (i1 &&& (3 : Int32)))), .val (.ref (own_pick a_NOT_NULL a_NULLABLE a_NULL a_UNKNOWN i2)), .val (.ref a4), .val (.ref (own_pick a_NOT_NULL a_NULLABLE a_NULL a_UNKNOWN (own_tv (((i0 &&& (3 : Int32)) * (4 : Int32)) + (i1 &&& (3 : Int32)))))), .val (.ref (own_merge a_NOT_NULL a_NULLABLE a_NULL a_UNKNOWN (own_pick a_NOT_NULL a_NULLABLE a_NULL a_UNKNOWN (i0 &&& (3 : Int32))) (own_pick a_NOT_NULL a_NULLABLE a_NULL a_UNKNOWN (i1 &&& (3 : Int32))))), .val (.ref (own_merge a_NOT_NULL a_NULLABLE a_NULL a_UNKNOWN (own_pick a_NOT_NULL a_NULLABLE a_NULL a_UNKNOWN (i1 &&& (3 : Int32))) (own_pick a_NOT_NULL a_NULLABLE a_NULL a_UNKNOWN (i0 &&& (3 : Int32))))), .unset, .unset, .unset]) rfl k) ?_
  show own_G p e below _ T24 (mkF m 140 #[.val (.int i0), .val (.int i1), .val (.int i2), .val (.int (i0 &&& (3 : Int32))), .val (.int (i1 &&& (3 : Int32))), .val (.ref (own_pick a_NOT_NULL a_NULLABLE a_NULL a_UNKNOWN (i0 &&& (3 : Int32)))), .val (.ref (own_pick a_NOT_NULL a_NULLABLE a_NULL a_UNKNOWN (i1 &&& (3 : Int32)))), .val (.ref (own_pick a_NOT_NULL a_NULLABLE a_NULL a_UNKNOWN i2)), .val (.ref a4), .val (.ref (own_pick a_NOT_NULL a_NULLABLE a_NULL a_UNKNOWN (own_tv (((i0 &&& (3 : Int32)) * (4 : Int32)) + (i1 &&& (3 : Int32)))))), .val (.ref (own_merge a_NOT_NULL a_NULLABLE a_NULL a_UNKNOWN (own_pick a_NOT_NULL a_NULLABLE a_NULL a_UNKNOWN (i0 &&& (3 : Int32))) (own_pick a_NOT_NULL a_NULLABLE a_NULL a_UNKNOWN (i1 &&& (3 : Int32))))), .val (.ref (own_merge a_NOT_NULL a_NULLABLE a_NULL a_UNKNOWN (own_pick a_NOT_NULL a_NULLABLE a_NULL a_UNKNOWN (i1 &&& (3 : Int32))) (own_pick a_NOT_NULL a_NULLABLE a_NULL a_UNKNOWN (i0 &&& (3 : Int32))))), .unset, .unset, .unset] [])
  refine own_go (fun t k => XS.aload X24.here hx rfl (hb hby at_140) rfl rfl k) ?_
  show own_G p e below _ T24 (mkF m 142 #[.val (.int i0), .val (.int i1), .val (.int i2), .val (.int (i0 &&& (3 : Int32))), .val (.int (i1 &&& (3 : Int32))), .val (.ref (own_pick a_NOT_NULL a_NULLABLE a_NULL a_UNKNOWN (i0 &&& (3 : Int32)))), .val (.ref (own_pick a_NOT_NULL a_NULLABLE a_NULL a_UNKNOWN (i1 &&& (3 : Int32)))), .val (.ref (own_pick a_NOT_NULL a_NULLABLE a_NULL a_UNKNOWN i2)), .val (.ref a4), .val (.ref (own_pick a_NOT_NULL a_NULLABLE a_NULL a_UNKNOWN (own_tv (((i0 &&& (3 : Int32)) * (4 : Int32)) + (i1 &&& (3 : Int32)))))), .val (.ref (own_merge a_NOT_NULL a_NULLABLE a_NULL a_UNKNOWN (own_pick a_NOT_NULL a_NULLABLE a_NULL a_UNKNOWN (i0 &&& (3 : Int32))) (own_pick a_NOT_NULL a_NULLABLE a_NULL a_UNKNOWN (i1 &&& (3 : Int32))))), .val (.ref (own_merge a_NOT_NULL a_NULLABLE a_NULL a_UNKNOWN (own_pick a_NOT_NULL a_NULLABLE a_NULL a_UNKNOWN (i1 &&& (3 : Int32))) (own_pick a_NOT_NULL a_NULLABLE a_NULL a_UNKNOWN (i0 &&& (3 : Int32))))), .unset, .unset, .unset] [(.ref (own_merge a_NOT_NULL a_NULLABLE a_NULL a_UNKNOWN (own_pick a_NOT_NULL a_NULLABLE a_NULL a_UNKNOWN (i0 &&& (3 : Int32))) (own_pick a_NOT_NULL a_NULLABLE a_NULL a_UNKNOWN (i1 &&& (3 : Int32)))))])
  refine own_go (fun t k => XS.aload X24.here hx rfl (hb hby at_142) rfl rfl k) ?_
  show own_G p e below _ T24 (mkF m 144 #[.val (.int i0), .val (.int i1), .val (.int i2), .val (.int (i0 &&& (3 : Int32))), .val (.int (i1 &&& (3 : Int32))), .val (.ref (own_pick a_NOT_NULL a_NULLABLE a_NULL a_UNKNOWN (i0 &&& (3 : Int32)))), .val (.ref (own_pick a_NOT_NULL a_NULLABLE a_NULL a_UNKNOWN (i1 &&& (3 : Int32)))), .val (.ref (own_pick a_NOT_NULL a_NULLABLE a_NULL a_UNKNOWN i2)), .val (.ref a4), .val (.ref (own_pick a_NOT_NULL a_NULLABLE a_NULL a_UNKNOWN (own_tv (((i0 &&& (3 : Int32)) * (4 : Int32)) + (i1 &&& (3 : Int32)))))), .val (.ref (own_merge a_NOT_NULL a_NULLABLE a_NULL a_UNKNOWN (own_pick a_NOT_NULL a_NULLABLE a_NULL a_UNKNOWN (i0 &&& (3 : Int32))) (own_pick a_NOT_NULL a_NULLABLE a_NULL a_UNKNOWN (i1 &&& (3 : Int32))))), .val (.ref (own_merge a_NOT_NULL a_NULLABLE a_NULL a_UNKNOWN (own_pick a_NOT_NULL a_NULLABLE a_NULL a_UNKNOWN (i1 &&& (3 : Int32))) (own_pick a_NOT_NULL a_NULLABLE a_NULL a_UNKNOWN (i0 &&& (3 : Int32))))), .unset, .unset, .unset] [(.ref (own_pick a_NOT_NULL a_NULLABLE a_NULL a_UNKNOWN i2)), (.ref (own_merge a_NOT_NULL a_NULLABLE a_NULL a_UNKNOWN (own_pick a_NOT_NULL a_NULLABLE a_NULL a_UNKNOWN (i0 &&& (3 : Int32))) (own_pick a_NOT_NULL a_NULLABLE a_NULL a_UNKNOWN (i1 &&& (3 : Int32)))))])
  obtain ⟨T25, L25, v25, X25, ⟨rfl, rfl, q25⟩, st25⟩ := own_callV X24 hx hZ (y := (⟨"com/example/nullsight/nullsight/check/Nullness", "merge", "(Lcom/example/nullsight/nullsight/check/Nullness;)Lcom/example/nullsight/nullsight/check/Nullness;"⟩ : MethodName)) (z := (⟨"com/example/nullsight/nullsight/check/Nullness", "merge", "(Lcom/example/nullsight/nullsight/check/Nullness;)Lcom/example/nullsight/nullsight/check/Nullness;"⟩ : MethodName)) hown (hw _ (List.mem_of_getElem? (i := 12) rfl)) (hw _ (List.mem_of_getElem? (i := 13) rfl)) (hw _ (List.mem_of_getElem? (i := 15) rfl)) (hw _ (List.mem_of_getElem? (i := 15) rfl)) (hw _ (List.mem_of_getElem? (i := 14) rfl)) (hw _ (List.mem_of_getElem? (i := 16) rfl)) (hw _ (List.mem_of_getElem? (i := 5) rfl)) (notFace_of_selects (args := #[]) (mvT hZ (hw _ (List.mem_of_getElem? (i := 15) rfl)))) (by decide) (c_merge l Z a0 hw a_NOT_NULL a_NULLABLE a_NULL a_UNKNOWN (own_merge a_NOT_NULL a_NULLABLE a_NULL a_UNKNOWN (own_pick a_NOT_NULL a_NULLABLE a_NULL a_UNKNOWN (i0 &&& (3 : Int32))) (own_pick a_NOT_NULL a_NULLABLE a_NULL a_UNKNOWN (i1 &&& (3 : Int32)))) (own_pick a_NOT_NULL a_NULLABLE a_NULL a_UNKNOWN i2) h20 (own_B_ext x20 B) ) q24 (own_merge_exa (own_B_ext x20 B) (own_pick_exa (own_B_ext x20 B) (i0 &&& (3 : Int32))) (own_pick a_NOT_NULL a_NULLABLE a_NULL a_UNKNOWN (i1 &&& (3 : Int32)))) (argsL := [(.ref (own_pick a_NOT_NULL a_NULLABLE a_NULL a_UNKNOWN i2))]) (rest := []) (g := (mkF m 144 #[.val (.int i0), .val (.int i1), .val (.int i2), .val (.int (i0 &&& (3 : Int32))), .val (.int (i1 &&& (3 : Int32))), .val (.ref (own_pick a_NOT_NULL a_NULLABLE a_NULL a_UNKNOWN (i0 &&& (3 : Int32)))), .val (.ref (own_pick a_NOT_NULL a_NULLABLE a_NULL a_UNKNOWN (i1 &&& (3 : Int32)))), .val (.ref (own_pick a_NOT_NULL a_NULLABLE a_NULL a_UNKNOWN i2)), .val (.ref a4), .val (.ref (own_pick a_NOT_NULL a_NULLABLE a_NULL a_UNKNOWN (own_tv (((i0 &&& (3 : Int32)) * (4 : Int32)) + (i1 &&& (3 : Int32)))))), .val (.ref (own_merge a_NOT_NULL a_NULLABLE a_NULL a_UNKNOWN (own_pick a_NOT_NULL a_NULLABLE a_NULL a_UNKNOWN (i0 &&& (3 : Int32))) (own_pick a_NOT_NULL a_NULLABLE a_NULL a_UNKNOWN (i1 &&& (3 : Int32))))), .val (.ref (own_merge a_NOT_NULL a_NULLABLE a_NULL a_UNKNOWN (own_pick a_NOT_NULL a_NULLABLE a_NULL a_UNKNOWN (i1 &&& (3 : Int32))) (own_pick a_NOT_NULL a_NULLABLE a_NULL a_UNKNOWN (i0 &&& (3 : Int32))))), .unset, .unset, .unset] [(.ref (own_pick a_NOT_NULL a_NULLABLE a_NULL a_UNKNOWN i2)), (.ref (own_merge a_NOT_NULL a_NULLABLE a_NULL a_UNKNOWN (own_pick a_NOT_NULL a_NULLABLE a_NULL a_UNKNOWN (i0 &&& (3 : Int32))) (own_pick a_NOT_NULL a_NULLABLE a_NULL a_UNKNOWN (i1 &&& (3 : Int32)))))])) rfl (by rw [hml]; rfl) (ps := [(.object "com/example/nullsight/nullsight/check/Nullness")]) (r := (some (.object "com/example/nullsight/nullsight/check/Nullness"))) (by decide +kernel) rfl rfl (W := 0) (by show 2 * 0 + _ ≤ _; exact Nat.le_of_eq rfl) (hb hby at_144) (by decide) (by decide) (by decide) (by decide)
  have N25 := Fr.app N24 (Fr.nil n0)
  refine own_go st25 ?_
  show own_G p e below _ T25 (mkF m 147 #[.val (.int i0), .val (.int i1), .val (.int i2), .val (.int (i0 &&& (3 : Int32))), .val (.int (i1 &&& (3 : Int32))), .val (.ref (own_pick a_NOT_NULL a_NULLABLE a_NULL a_UNKNOWN (i0 &&& (3 : Int32)))), .val (.ref (own_pick a_NOT_NULL a_NULLABLE a_NULL a_UNKNOWN (i1 &&& (3 : Int32)))), .val (.ref (own_pick a_NOT_NULL a_NULLABLE a_NULL a_UNKNOWN i2)), .val (.ref a4), .val (.ref (own_pick a_NOT_NULL a_NULLABLE a_NULL a_UNKNOWN (own_tv (((i0 &&& (3 : Int32)) * (4 : Int32)) + (i1 &&& (3 : Int32)))))), .val (.ref (own_merge a_NOT_NULL a_NULLABLE a_NULL a_UNKNOWN (own_pick a_NOT_NULL a_NULLABLE a_NULL a_UNKNOWN (i0 &&& (3 : Int32))) (own_pick a_NOT_NULL a_NULLABLE a_NULL a_UNKNOWN (i1 &&& (3 : Int32))))), .val (.ref (own_merge a_NOT_NULL a_NULLABLE a_NULL a_UNKNOWN (own_pick a_NOT_NULL a_NULLABLE a_NULL a_UNKNOWN (i1 &&& (3 : Int32))) (own_pick a_NOT_NULL a_NULLABLE a_NULL a_UNKNOWN (i0 &&& (3 : Int32))))), .unset, .unset, .unset] [(.ref (own_merge a_NOT_NULL a_NULLABLE a_NULL a_UNKNOWN (own_merge a_NOT_NULL a_NULLABLE a_NULL a_UNKNOWN (own_pick a_NOT_NULL a_NULLABLE a_NULL a_UNKNOWN (i0 &&& (3 : Int32))) (own_pick a_NOT_NULL a_NULLABLE a_NULL a_UNKNOWN (i1 &&& (3 : Int32)))) (own_pick a_NOT_NULL a_NULLABLE a_NULL a_UNKNOWN i2)))])
  refine own_go (fun t k => XS.astore X25.here hx rfl (hb hby at_147) rfl rfl (l' := #[.val (.int i0), .val (.int i1), .val (.int i2), .val (.int (i0 &&& (3 : Int32))), .val (.int (i1 &&& (3 : Int32))), .val (.ref (own_pick a_NOT_NULL a_NULLABLE a_NULL a_UNKNOWN (i0 &&& (3 : Int32)))), .val (.ref (own_pick a_NOT_NULL a_NULLABLE a_NULL a_UNKNOWN (i1 &&& (3 : Int32)))), .val (.ref (own_pick a_NOT_NULL a_NULLABLE a_NULL a_UNKNOWN i2)), .val (.ref a4), .val (.ref (own_pick a_NOT_NULL a_NULLABLE a_NULL a_UNKNOWN (own_tv (((i0 &&& (3 : Int32)) * (4 : Int32)) + (i1 &&& (3 : Int32)))))), .val (.ref (own_merge a_NOT_NULL a_NULLABLE a_NULL a_UNKNOWN (own_pick a_NOT_NULL a_NULLABLE a_NULL a_UNKNOWN (i0 &&& (3 : Int32))) (own_pick a_NOT_NULL a_NULLABLE a_NULL a_UNKNOWN (i1 &&& (3 : Int32))))), .val (.ref (own_merge a_NOT_NULL a_NULLABLE a_NULL a_UNKNOWN (own_pick a_NOT_NULL a_NULLABLE a_NULL a_UNKNOWN (i1 &&& (3 : Int32))) (own_pick a_NOT_NULL a_NULLABLE a_NULL a_UNKNOWN (i0 &&& (3 : Int32))))), .val (.ref (own_merge a_NOT_NULL a_NULLABLE a_NULL a_UNKNOWN (own_merge a_NOT_NULL a_NULLABLE a_NULL a_UNKNOWN (own_pick a_NOT_NULL a_NULLABLE a_NULL a_UNKNOWN (i0 &&& (3 : Int32))) (own_pick a_NOT_NULL a_NULLABLE a_NULL a_UNKNOWN (i1 &&& (3 : Int32)))) (own_pick a_NOT_NULL a_NULLABLE a_NULL a_UNKNOWN i2))), .unset, .unset]) rfl k) ?_
  show own_G p e below _ T25 (mkF m 149 #[.val (.int i0), .val (.int i1), .val (.int i2), .val (.int (i0 &&& (3 : Int32))), .val (.int (i1 &&& (3 : Int32))), .val (.ref (own_pick a_NOT_NULL a_NULLABLE a_NULL a_UNKNOWN (i0 &&& (3 : Int32)))), .val (.ref (own_pick a_NOT_NULL a_NULLABLE a_NULL a_UNKNOWN (i1 &&& (3 : Int32)))), .val (.ref (own_pick a_NOT_NULL a_NULLABLE a_NULL a_UNKNOWN i2)), .val (.ref a4), .val (.ref (own_pick a_NOT_NULL a_NULLABLE a_NULL a_UNKNOWN (own_tv (((i0 &&& (3 : Int32)) * (4 : Int32)) + (i1 &&& (3 : Int32)))))), .val (.ref (own_merge a_NOT_NULL a_NULLABLE a_NULL a_UNKNOWN (own_pick a_NOT_NULL a_NULLABLE a_NULL a_UNKNOWN (i0 &&& (3 : Int32))) (own_pick a_NOT_NULL a_NULLABLE a_NULL a_UNKNOWN (i1 &&& (3 : Int32))))), .val (.ref (own_merge a_NOT_NULL a_NULLABLE a_NULL a_UNKNOWN (own_pick a_NOT_NULL a_NULLABLE a_NULL a_UNKNOWN (i1 &&& (3 : Int32))) (own_pick a_NOT_NULL a_NULLABLE a_NULL a_UNKNOWN (i0 &&& (3 : Int32))))), .val (.ref (own_merge a_NOT_NULL a_NULLABLE a_NULL a_UNKNOWN (own_merge a_NOT_NULL a_NULLABLE a_NULL a_UNKNOWN (own_pick a_NOT_NULL a_NULLABLE a_NULL a_UNKNOWN (i0 &&& (3 : Int32))) (own_pick a_NOT_NULL a_NULLABLE a_NULL a_UNKNOWN (i1 &&& (3 : Int32)))) (own_pick a_NOT_NULL a_NULLABLE a_NULL a_UNKNOWN i2))), .unset, .unset] [])
  refine own_go (fun t k => XS.aload X25.here hx rfl (hb hby at_149) rfl rfl k) ?_
  show own_G p e below _ T25 (mkF m 151 #[.val (.int i0), .val (.int i1), .val (.int i2), .val (.int (i0 &&& (3 : Int32))), .val (.int (i1 &&& (3 : Int32))), .val (.ref (own_pick a_NOT_NULL a_NULLABLE a_NULL a_UNKNOWN (i0 &&& (3 : Int32)))), .val (.ref (own_pick a_NOT_NULL a_NULLABLE a_NULL a_UNKNOWN (i1 &&& (3 : Int32)))), .val (.ref (own_pick a_NOT_NULL a_NULLABLE a_NULL a_UNKNOWN i2)), .val (.ref a4), .val (.ref (own_pick a_NOT_NULL a_NULLABLE a_NULL a_UNKNOWN (own_tv (((i0 &&& (3 : Int32)) * (4 : Int32)) + (i1 &&& (3 : Int32)))))), .val (.ref (own_merge a_NOT_NULL a_NULLABLE a_NULL a_UNKNOWN (own_pick a_NOT_NULL a_NULLABLE a_NULL a_UNKNOWN (i0 &&& (3 : Int32))) (own_pick a_NOT_NULL a_NULLABLE a_NULL a_UNKNOWN (i1 &&& (3 : Int32))))), .val (.ref (own_merge a_NOT_NULL a_NULLABLE a_NULL a_UNKNOWN (own_pick a_NOT_NULL a_NULLABLE a_NULL a_UNKNOWN (i1 &&& (3 : Int32))) (own_pick a_NOT_NULL a_NULLABLE a_NULL a_UNKNOWN (i0 &&& (3 : Int32))))), .val (.ref (own_merge a_NOT_NULL a_NULLABLE a_NULL a_UNKNOWN (own_merge a_NOT_NULL a_NULLABLE a_NULL a_UNKNOWN (own_pick a_NOT_NULL a_NULLABLE a_NULL a_UNKNOWN (i0 &&& (3 : Int32))) (own_pick a_NOT_NULL a_NULLABLE a_NULL a_UNKNOWN (i1 &&& (3 : Int32)))) (own_pick a_NOT_NULL a_NULLABLE a_NULL a_UNKNOWN i2))), .unset, .unset] [(.ref (own_pick a_NOT_NULL a_NULLABLE a_NULL a_UNKNOWN (i1 &&& (3 : Int32))))])
  refine own_go (fun t k => XS.aload X25.here hx rfl (hb hby at_151) rfl rfl k) ?_
  show own_G p e below _ T25 (mkF m 153 #[.val (.int i0), .val (.int i1), .val (.int i2), .val (.int (i0 &&& (3 : Int32))), .val (.int (i1 &&& (3 : Int32))), .val (.ref (own_pick a_NOT_NULL a_NULLABLE a_NULL a_UNKNOWN (i0 &&& (3 : Int32)))), .val (.ref (own_pick a_NOT_NULL a_NULLABLE a_NULL a_UNKNOWN (i1 &&& (3 : Int32)))), .val (.ref (own_pick a_NOT_NULL a_NULLABLE a_NULL a_UNKNOWN i2)), .val (.ref a4), .val (.ref (own_pick a_NOT_NULL a_NULLABLE a_NULL a_UNKNOWN (own_tv (((i0 &&& (3 : Int32)) * (4 : Int32)) + (i1 &&& (3 : Int32)))))), .val (.ref (own_merge a_NOT_NULL a_NULLABLE a_NULL a_UNKNOWN (own_pick a_NOT_NULL a_NULLABLE a_NULL a_UNKNOWN (i0 &&& (3 : Int32))) (own_pick a_NOT_NULL a_NULLABLE a_NULL a_UNKNOWN (i1 &&& (3 : Int32))))), .val (.ref (own_merge a_NOT_NULL a_NULLABLE a_NULL a_UNKNOWN (own_pick a_NOT_NULL a_NULLABLE a_NULL a_UNKNOWN (i1 &&& (3 : Int32))) (own_pick a_NOT_NULL a_NULLABLE a_NULL a_UNKNOWN (i0 &&& (3 : Int32))))), .val (.ref (own_merge a_NOT_NULL a_NULLABLE a_NULL a_UNKNOWN (own_merge a_NOT_NULL a_NULLABLE a_NULL a_UNKNOWN (own_pick a_NOT_NULL a_NULLABLE a_NULL a_UNKNOWN (i0 &&& (3 : Int32))) (own_pick a_NOT_NULL a_NULLABLE a_NULL a_UNKNOWN (i1 &&& (3 : Int32)))) (own_pick a_NOT_NULL a_NULLABLE a_NULL a_UNKNOWN i2))), .unset, .unset] [(.ref (own_pick a_NOT_NULL a_NULLABLE a_NULL a_UNKNOWN i2)), (.ref (own_pick a_NOT_NULL a_NULLABLE a_NULL a_UNKNOWN (i1 &&& (3 : Int32))))])
  obtain ⟨T26, L26, v26, X26, ⟨rfl, rfl, q26⟩, st26⟩ := own_callV X25 hx hZ (y := (⟨"com/example/nullsight/nullsight/check/Nullness", "merge", "(Lcom/example/nullsight/nullsight/check/Nullness;)Lcom/example/nullsight/nullsight/check/Nullness;"⟩ : MethodName)) (z := (⟨"com/example/nullsight/nullsight/check/Nullness", "merge", "(Lcom/example/nullsight/nullsight/check/Nullness;)Lcom/example/nullsight/nullsight/check/Nullness;"⟩ : MethodName)) hown (hw _ (List.mem_of_getElem? (i := 12) rfl)) (hw _ (List.mem_of_getElem? (i := 13) rfl)) (hw _ (List.mem_of_getElem? (i := 15) rfl)) (hw _ (List.mem_of_getElem? (i := 15) rfl)) (hw _ (List.mem_of_getElem? (i := 14) rfl)) (hw _ (List.mem_of_getElem? (i := 16) rfl)) (hw _ (List.mem_of_getElem? (i := 5) rfl)) (notFace_of_selects (args := #[]) (mvT hZ (hw _ (List.mem_of_getElem? (i := 15) rfl)))) (by decide) (c_merge l Z a0 hw a_NOT_NULL a_NULLABLE a_NULL a_UNKNOWN (own_pick a_NOT_NULL a_NULLABLE a_NULL a_UNKNOWN (i1 &&& (3 : Int32))) (own_pick a_NOT_NULL a_NULLABLE a_NULL a_UNKNOWN i2) h20 (own_B_ext x20 B) ) q25 (own_pick_exa (own_B_ext x20 B) (i1 &&& (3 : Int32))) (argsL := [(.ref (own_pick a_NOT_NULL a_NULLABLE a_NULL a_UNKNOWN i2))]) (rest := []) (g := (mkF m 153 #[.val (.int i0), .val (.int i1), .val (.int i2), .val (.int (i0 &&& (3 : Int32))), .val (.int (i1 &&& (3 : Int32))), .val (.ref (own_pick a_NOT_NULL a_NULLABLE a_NULL a_UNKNOWN (i0 &&& (3 : Int32)))), .val (.ref (own_pick a_NOT_NULL a_NULLABLE a_NULL a_UNKNOWN (i1 &&& (3 : Int32)))), .val (.ref (own_pick a_NOT_NULL a_NULLABLE a_NULL a_UNKNOWN i2)), .val (.ref a4), .val (.ref (own_pick a_NOT_NULL a_NULLABLE a_NULL a_UNKNOWN (own_tv (((i0 &&& (3 : Int32)) * (4 : Int32)) + (i1 &&& (3 : Int32)))))), .val (.ref (own_merge a_NOT_NULL a_NULLABLE a_NULL a_UNKNOWN (own_pick a_NOT_NULL a_NULLABLE a_NULL a_UNKNOWN (i0 &&& (3 : Int32))) (own_pick a_NOT_NULL a_NULLABLE a_NULL a_UNKNOWN (i1 &&& (3 : Int32))))), .val (.ref (own_merge a_NOT_NULL a_NULLABLE a_NULL a_UNKNOWN (own_pick a_NOT_NULL a_NULLABLE a_NULL a_UNKNOWN (i1 &&& (3 : Int32))) (own_pick a_NOT_NULL a_NULLABLE a_NULL a_UNKNOWN (i0 &&& (3 : Int32))))), .val (.ref (own_merge a_NOT_NULL a_NULLABLE a_NULL a_UNKNOWN (own_merge a_NOT_NULL a_NULLABLE a_NULL a_UNKNOWN (own_pick a_NOT_NULL a_NULLABLE a_NULL a_UNKNOWN (i0 &&& (3 : Int32))) (own_pick a_NOT_NULL a_NULLABLE a_NULL a_UNKNOWN (i1 &&& (3 : Int32)))) (own_pick a_NOT_NULL a_NULLABLE a_NULL a_UNKNOWN i2))), .unset, .unset] [(.ref (own_pick a_NOT_NULL a_NULLABLE a_NULL a_UNKNOWN i2)), (.ref (own_pick a_NOT_NULL a_NULLABLE a_NULL a_UNKNOWN (i1 &&& (3 : Int32))))])) rfl (by rw [hml]; rfl) (ps := [(.object "com/example/nullsight/nullsight/check/Nullness")]) (r := (some (.object "com/example/nullsight/nullsight/check/Nullness"))) (by decide +kernel) rfl rfl (W := 0) (by show 2 * 0 + _ ≤ _; exact Nat.le_of_eq rfl) (hb hby at_153) (by decide) (by decide) (by decide) (by decide)
  have N26 := Fr.app N25 (Fr.nil n0)
  refine own_go st26 ?_
  show own_G p e below _ T26 (mkF m 156 #[.val (.int i0), .val (.int i1), .val (.int i2), .val (.int (i0 &&& (3 : Int32))), .val (.int (i1 &&& (3 : Int32))), .val (.ref (own_pick a_NOT_NULL a_NULLABLE a_NULL a_UNKNOWN (i0 &&& (3 : Int32)))), .val (.ref (own_pick a_NOT_NULL a_NULLABLE a_NULL a_UNKNOWN (i1 &&& (3 : Int32)))), .val (.ref (own_pick a_NOT_NULL a_NULLABLE a_NULL a_UNKNOWN i2)), .val (.ref a4), .val (.ref (own_pick a_NOT_NULL a_NULLABLE a_NULL a_UNKNOWN (own_tv (((i0 &&& (3 : Int32)) * (4 : Int32)) + (i1 &&& (3 : Int32)))))), .val (.ref (own_merge a_NOT_NULL a_NULLABLE a_NULL a_UNKNOWN (own_pick a_NOT_NULL a_NULLABLE a_NULL a_UNKNOWN (i0 &&& (3 : Int32))) (own_pick a_NOT_NULL a_NULLABLE a_NULL a_UNKNOWN (i1 &&& (3 : Int32))))), .val (.ref (own_merge a_NOT_NULL a_NULLABLE a_NULL a_UNKNOWN (own_pick a_NOT_NULL a_NULLABLE a_NULL a_UNKNOWN (i1 &&& (3 : Int32))) (own_pick a_NOT_NULL a_NULLABLE a_NULL a_UNKNOWN (i0 &&& (3 : Int32))))), .val (.ref (own_merge a_NOT_NULL a_NULLABLE a_NULL a_UNKNOWN (own_merge a_NOT_NULL a_NULLABLE a_NULL a_UNKNOWN (own_pick a_NOT_NULL a_NULLABLE a_NULL a_UNKNOWN (i0 &&& (3 : Int32))) (own_pick a_NOT_NULL a_NULLABLE a_NULL a_UNKNOWN (i1 &&& (3 : Int32)))) (own_pick a_NOT_NULL a_NULLABLE a_NULL a_UNKNOWN i2))), .unset, .unset] [(.ref (own_merge a_NOT_NULL a_NULLABLE a_NULL a_UNKNOWN (own_pick a_NOT_NULL a_NULLABLE a_NULL a_UNKNOWN (i1 &&& (3 : Int32))) (own_pick a_NOT_NULL a_NULLABLE a_NULL a_UNKNOWN i2)))])
  refine own_go (fun t k => XS.astore X26.here hx rfl (hb hby at_156) rfl rfl (l' := #[.val (.int i0), .val (.int i1), .val (.int i2), .val (.int (i0 &&& (3 : Int32))), .val (.int (i1 &&& (3 : Int32))), .val (.ref (own_pick a_NOT_NULL a_NULLABLE a_NULL a_UNKNOWN (i0 &&& (3 : Int32)))), .val (.ref (own_pick a_NOT_NULL a_NULLABLE a_NULL a_UNKNOWN (i1 &&& (3 : Int32)))), .val (.ref (own_pick a_NOT_NULL a_NULLABLE a_NULL a_UNKNOWN i2)), .val (.ref a4), .val (.ref (own_pick a_NOT_NULL a_NULLABLE a_NULL a_UNKNOWN (own_tv (((i0 &&& (3 : Int32)) * (4 : Int32)) + (i1 &&& (3 : Int32)))))), .val (.ref (own_merge a_NOT_NULL a_NULLABLE a_NULL a_UNKNOWN (own_pick a_NOT_NULL a_NULLABLE a_NULL a_UNKNOWN (i0 &&& (3 : Int32))) (own_pick a_NOT_NULL a_NULLABLE a_NULL a_UNKNOWN (i1 &&& (3 : Int32))))), .val (.ref (own_merge a_NOT_NULL a_NULLABLE a_NULL a_UNKNOWN (own_pick a_NOT_NULL a_NULLABLE a_NULL a_UNKNOWN (i1 &&& (3 : Int32))) (own_pick a_NOT_NULL a_NULLABLE a_NULL a_UNKNOWN (i0 &&& (3 : Int32))))), .val (.ref (own_merge a_NOT_NULL a_NULLABLE a_NULL a_UNKNOWN (own_merge a_NOT_NULL a_NULLABLE a_NULL a_UNKNOWN (own_pick a_NOT_NULL a_NULLABLE a_NULL a_UNKNOWN (i0 &&& (3 : Int32))) (own_pick a_NOT_NULL a_NULLABLE a_NULL a_UNKNOWN (i1 &&& (3 : Int32)))) (own_pick a_NOT_NULL a_NULLABLE a_NULL a_UNKNOWN i2))), .val (.ref (own_merge a_NOT_NULL a_NULLABLE a_NULL a_UNKNOWN (own_pick a_NOT_NULL a_NULLABLE a_NULL a_UNKNOWN (i1 &&& (3 : Int32))) (own_pick a_NOT_NULL a_NULLABLE a_NULL a_UNKNOWN i2))), .unset]) rfl k) ?_
  show own_G p e below _ T26 (mkF m 158 #[.val (.int i0), .val (.int i1), .val (.int i2), .val (.int (i0 &&& (3 : Int32))), .val (.int (i1 &&& (3 : Int32))), .val (.ref (own_pick a_NOT_NULL a_NULLABLE a_NULL a_UNKNOWN (i0 &&& (3 : Int32)))), .val (.ref (own_pick a_NOT_NULL a_NULLABLE a_NULL a_UNKNOWN (i1 &&& (3 : Int32)))), .val (.ref (own_pick a_NOT_NULL a_NULLABLE a_NULL a_UNKNOWN i2)), .val (.ref a4), .val (.ref (own_pick a_NOT_NULL a_NULLABLE a_NULL a_UNKNOWN (own_tv (((i0 &&& (3 : Int32)) * (4 : Int32)) + (i1 &&& (3 : Int32)))))), .val (.ref (own_merge a_NOT_NULL a_NULLABLE a_NULL a_UNKNOWN (own_pick a_NOT_NULL a_NULLABLE a_NULL a_UNKNOWN (i0 &&& (3 : Int32))) (own_pick a_NOT_NULL a_NULLABLE a_NULL a_UNKNOWN (i1 &&& (3 : Int32))))), .val (.ref (own_merge a_NOT_NULL a_NULLABLE a_NULL a_UNKNOWN (own_pick a_NOT_NULL a_NULLABLE a_NULL a_UNKNOWN (i1 &&& (3 : Int32))) (own_pick a_NOT_NULL a_NULLABLE a_NULL a_UNKNOWN (i0 &&& (3 : Int32))))), .val (.ref (own_merge a_NOT_NULL a_NULLABLE a_NULL a_UNKNOWN (own_merge a_NOT_NULL a_NULLABLE a_NULL a_UNKNOWN (own_pick a_NOT_NULL a_NULLABLE a_NULL a_UNKNOWN (i0 &&& (3 : Int32))) (own_pick a_NOT_NULL a_NULLABLE a_NULL a_UNKNOWN (i1 &&& (3 : Int32)))) (own_pick a_NOT_NULL a_NULLABLE a_NULL a_UNKNOWN i2))), .val (.ref (own_merge a_NOT_NULL a_NULLABLE a_NULL a_UNKNOWN (own_pick a_NOT_NULL a_NULLABLE a_NULL a_UNKNOWN (i1 &&& (3 : Int32))) (own_pick a_NOT_NULL a_NULLABLE a_NULL a_UNKNOWN i2))), .unset] [])
  refine own_go (fun t k => XS.aload X26.here hx rfl (hb hby at_158) rfl rfl k) ?_
  show own_G p e below _ T26 (mkF m 160 #[.val (.int i0), .val (.int i1), .val (.int i2), .val (.int (i0 &&& (3 : Int32))), .val (.int (i1 &&& (3 : Int32))), .val (.ref (own_pick a_NOT_NULL a_NULLABLE a_NULL a_UNKNOWN (i0 &&& (3 : Int32)))), .val (.ref (own_pick a_NOT_NULL a_NULLABLE a_NULL a_UNKNOWN (i1 &&& (3 : Int32)))), .val (.ref (own_pick a_NOT_NULL a_NULLABLE a_NULL a_UNKNOWN i2)), .val (.ref a4), .val (.ref (own_pick a_NOT_NULL a_NULLABLE a_NULL a_UNKNOWN (own_tv (((i0 &&& (3 : Int32)) * (4 : Int32)) + (i1 &&& (3 : Int32)))))), .val (.ref (own_merge a_NOT_NULL a_NULLABLE a_NULL a_UNKNOWN (own_pick a_NOT_NULL a_NULLABLE a_NULL a_UNKNOWN (i0 &&& (3 : Int32))) (own_pick a_NOT_NULL a_NULLABLE a_NULL a_UNKNOWN (i1 &&& (3 : Int32))))), .val (.ref (own_merge a_NOT_NULL a_NULLABLE a_NULL a_UNKNOWN (own_pick a_NOT_NULL a_NULLABLE a_NULL a_UNKNOWN (i1 &&& (3 : Int32))) (own_pick a_NOT_NULL a_NULLABLE a_NULL a_UNKNOWN (i0 &&& (3 : Int32))))), .val (.ref (own_merge a_NOT_NULL a_NULLABLE a_NULL a_UNKNOWN (own_merge a_NOT_NULL a_NULLABLE a_NULL a_UNKNOWN (own_pick a_NOT_NULL a_NULLABLE a_NULL a_UNKNOWN (i0 &&& (3 : Int32))) (own_pick a_NOT_NULL a_NULLABLE a_NULL a_UNKNOWN (i1 &&& (3 : Int32)))) (own_pick a_NOT_NULL a_NULLABLE a_NULL a_UNKNOWN i2))), .val (.ref (own_merge a_NOT_NULL a_NULLABLE a_NULL a_UNKNOWN (own_pick a_NOT_NULL a_NULLABLE a_NULL a_UNKNOWN (i1 &&& (3 : Int32))) (own_pick a_NOT_NULL a_NULLABLE a_NULL a_UNKNOWN i2))), .unset] [(.ref (own_pick a_NOT_NULL a_NULLABLE a_NULL a_UNKNOWN (i0 &&& (3 : Int32))))])
  refine own_go (fun t k => XS.aload X26.here hx rfl (hb hby at_160) rfl rfl k) ?_
  show own_G p e below _ T26 (mkF m 162 #[.val (.int i0), .val (.int i1), .val (.int i2), .val (.int (i0 &&& (3 : Int32))), .val (.int (i1 &&& (3 : Int32))), .val (.ref (own_pick a_NOT_NULL a_NULLABLE a_NULL a_UNKNOWN (i0 &&& (3 : Int32)))), .val (.ref (own_pick a_NOT_NULL a_NULLABLE a_NULL a_UNKNOWN (i1 &&& (3 : Int32)))), .val (.ref (own_pick a_NOT_NULL a_NULLABLE a_NULL a_UNKNOWN i2)), .val (.ref a4), .val (.ref (own_pick a_NOT_NULL a_NULLABLE a_NULL a_UNKNOWN (own_tv (((i0 &&& (3 : Int32)) * (4 : Int32)) + (i1 &&& (3 : Int32)))))), .val (.ref (own_merge a_NOT_NULL a_NULLABLE a_NULL a_UNKNOWN (own_pick a_NOT_NULL a_NULLABLE a_NULL a_UNKNOWN (i0 &&& (3 : Int32))) (own_pick a_NOT_NULL a_NULLABLE a_NULL a_UNKNOWN (i1 &&& (3 : Int32))))), .val (.ref (own_merge a_NOT_NULL a_NULLABLE a_NULL a_UNKNOWN (own_pick a_NOT_NULL a_NULLABLE a_NULL a_UNKNOWN (i1 &&& (3 : Int32))) (own_pick a_NOT_NULL a_NULLABLE a_NULL a_UNKNOWN (i0 &&& (3 : Int32))))), .val (.ref (own_merge a_NOT_NULL a_NULLABLE a_NULL a_UNKNOWN (own_merge a_NOT_NULL a_NULLABLE a_NULL a_UNKNOWN (own_pick a_NOT_NULL a_NULLABLE a_NULL a_UNKNOWN (i0 &&& (3 : Int32))) (own_pick a_NOT_NULL a_NULLABLE a_NULL a_UNKNOWN (i1 &&& (3 : Int32)))) (own_pick a_NOT_NULL a_NULLABLE a_NULL a_UNKNOWN i2))), .val (.ref (own_merge a_NOT_NULL a_NULLABLE a_NULL a_UNKNOWN (own_pick a_NOT_NULL a_NULLABLE a_NULL a_UNKNOWN (i1 &&& (3 : Int32))) (own_pick a_NOT_NULL a_NULLABLE a_NULL a_UNKNOWN i2))), .unset] [(.ref (own_merge a_NOT_NULL a_NULLABLE a_NULL a_UNKNOWN (own_pick a_NOT_NULL a_NULLABLE a_NULL a_UNKNOWN (i1 &&& (3 : Int32))) (own_pick a_NOT_NULL a_NULLABLE a_NULL a_UNKNOWN i2))), (.ref (own_pick a_NOT_NULL a_NULLABLE a_NULL a_UNKNOWN (i0 &&& (3 : Int32))))])
  obtain ⟨T27, L27, v27, X27, ⟨rfl, rfl, q27⟩, st27⟩ := own_callV X26 hx hZ (y := (⟨"com/example/nullsight/nullsight/check/Nullness", "merge", "(Lcom/example/nullsight/nullsight/check/Nullness;)Lcom/example/nullsight/nullsight/check/Nullness;"⟩ : MethodName)) (z := (⟨"com/example/nullsight/nullsight/check/Nullness", "merge", "(Lcom/example/nullsight/nullsight/check/Nullness;)Lcom/example/nullsight/nullsight/check/Nullness;"⟩ : MethodName)) hown (hw _ (List.mem_of_getElem? (i := 12) rfl)) (hw _ (List.mem_of_getElem? (i := 13) rfl)) (hw _ (List.mem_of_getElem? (i := 15) rfl)) (hw _ (List.mem_of_getElem? (i := 15) rfl)) (hw _ (List.mem_of_getElem? (i := 14) rfl)) (hw _ (List.mem_of_getElem? (i := 16) rfl)) (hw _ (List.mem_of_getElem? (i := 5) rfl)) (notFace_of_selects (args := #[]) (mvT hZ (hw _ (List.mem_of_getElem? (i := 15) rfl)))) (by decide) (c_merge l Z a0 hw a_NOT_NULL a_NULLABLE a_NULL a_UNKNOWN (own_pick a_NOT_NULL a_NULLABLE a_NULL a_UNKNOWN (i0 &&& (3 : Int32))) (own_merge a_NOT_NULL a_NULLABLE a_NULL a_UNKNOWN (own_pick a_NOT_NULL a_NULLABLE a_NULL a_UNKNOWN (i1 &&& (3 : Int32))) (own_pick a_NOT_NULL a_NULLABLE a_NULL a_UNKNOWN i2)) h20 (own_B_ext x20 B) ) q26 (own_pick_exa (own_B_ext x20 B) (i0 &&& (3 : Int32))) (argsL := [(.ref (own_merge a_NOT_NULL a_NULLABLE a_NULL a_UNKNOWN (own_pick a_NOT_NULL a_NULLABLE a_NULL a_UNKNOWN (i1 &&& (3 : Int32))) (own_pick a_NOT_NULL a_NULLABLE a_NULL a_UNKNOWN i2)))]) (rest := []) (g := (mkF m 162 #[.val (.int i0), .val (.int i1), .val (.int i2), .val (.int (i0 &&& (3 : Int32))), .val (.int (i1 &&& (3 : Int32))), .val (.ref (own_pick a_NOT_NULL a_NULLABLE a_NULL a_UNKNOWN (i0 &&& (3 : Int32)))), .val (.ref (own_pick a_NOT_NULL a_NULLABLE a_NULL a_UNKNOWN (i1 &&& (3 : Int32)))), .val (.ref (own_pick a_NOT_NULL a_NULLABLE a_NULL a_UNKNOWN i2)), .val (.ref a4), .val (.ref (own_pick a_NOT_NULL a_NULLABLE a_NULL a_UNKNOWN (own_tv (((i0 &&& (3 : Int32)) * (4 : Int32)) + (i1 &&& (3 : Int32)))))), .val (.ref (own_merge a_NOT_NULL a_NULLABLE a_NULL a_UNKNOWN (own_pick a_NOT_NULL a_NULLABLE a_NULL a_UNKNOWN (i0 &&& (3 : Int32))) (own_pick a_NOT_NULL a_NULLABLE a_NULL a_UNKNOWN (i1 &&& (3 : Int32))))), .val (.ref (own_merge a_NOT_NULL a_NULLABLE a_NULL a_UNKNOWN (own_pick a_NOT_NULL a_NULLABLE a_NULL a_UNKNOWN (i1 &&& (3 : Int32))) (own_pick a_NOT_NULL a_NULLABLE a_NULL a_UNKNOWN (i0 &&& (3 : Int32))))), .val (.ref (own_merge a_NOT_NULL a_NULLABLE a_NULL a_UNKNOWN (own_merge a_NOT_NULL a_NULLABLE a_NULL a_UNKNOWN (own_pick a_NOT_NULL a_NULLABLE a_NULL a_UNKNOWN (i0 &&& (3 : Int32))) (own_pick a_NOT_NULL a_NULLABLE a_NULL a_UNKNOWN (i1 &&& (3 : Int32)))) (own_pick a_NOT_NULL a_NULLABLE a_NULL a_UNKNOWN i2))), .val (.ref (own_merge a_NOT_NULL a_NULLABLE a_NULL a_UNKNOWN (own_pick a_NOT_NULL a_NULLABLE a_NULL a_UNKNOWN (i1 &&& (3 : Int32))) (own_pick a_NOT_NULL a_NULLABLE a_NULL a_UNKNOWN i2))), .unset] [(.ref (own_merge a_NOT_NULL a_NULLABLE a_NULL a_UNKNOWN (own_pick a_NOT_NULL a_NULLABLE a_NULL a_UNKNOWN (i1 &&& (3 : Int32))) (own_pick a_NOT_NULL a_NULLABLE a_NULL a_UNKNOWN i2))), (.ref (own_pick a_NOT_NULL a_NULLABLE a_NULL a_UNKNOWN (i0 &&& (3 : Int32))))])) rfl (by rw [hml]; rfl) (ps := [(.object "com/example/nullsight/nullsight/check/Nullness")]) (r := (some (.object "com/example/nullsight/nullsight/check/Nullness"))) (by decide +kernel) rfl rfl (W := 0) (by show 2 * 0 + _ ≤ _; exact Nat.le_of_eq rfl) (hb hby at_162) (by decide) (by decide) (by decide) (by decide)
  have N27 := Fr.app N26 (Fr.nil n0)
  refine own_go st27 ?_
  show own_G p e below _ T27 (mkF m 165 #[.val (.int i0), .val (.int i1), .val (.int i2), .val (.int (i0 &&& (3 : Int32))), .val (.int (i1 &&& (3 : Int32))), .val (.ref (own_pick a_NOT_NULL a_NULLABLE a_NULL a_UNKNOWN (i0 &&& (3 : Int32)))), .val (.ref (own_pick a_NOT_NULL a_NULLABLE a_NULL a_UNKNOWN (i1 &&& (3 : Int32)))), .val (.ref (own_pick a_NOT_NULL a_NULLABLE a_NULL a_UNKNOWN i2)), .val (.ref a4), .val (.ref (own_pick a_NOT_NULL a_NULLABLE a_NULL a_UNKNOWN (own_tv (((i0 &&& (3 : Int32)) * (4 : Int32)) + (i1 &&& (3 : Int32)))))), .val (.ref (own_merge a_NOT_NULL a_NULLABLE a_NULL a_UNKNOWN (own_pick a_NOT_NULL a_NULLABLE a_NULL a_UNKNOWN (i0 &&& (3 : Int32))) (own_pick a_NOT_NULL a_NULLABLE a_NULL a_UNKNOWN (i1 &&& (3 : Int32))))), .val (.ref (own_merge a_NOT_NULL a_NULLABLE a_NULL a_UNKNOWN (own_pick a_NOT_NULL a_NULLABLE a_NULL a_UNKNOWN (i1 &&& (3 : Int32))) (own_pick a_NOT_NULL a_NULLABLE a_NULL a_UNKNOWN (i0 &&& (3 : Int32))))), .val (.ref (own_merge a_NOT_NULL a_NULLABLE a_NULL a_UNKNOWN (own_merge a_NOT_NULL a_NULLABLE a_NULL a_UNKNOWN (own_pick a_NOT_NULL a_NULLABLE a_NULL a_UNKNOWN (i0 &&& (3 : Int32))) (own_pick a_NOT_NULL a_NULLABLE a_NULL a_UNKNOWN (i1 &&& (3 : Int32)))) (own_pick a_NOT_NULL a_NULLABLE a_NULL a_UNKNOWN i2))), .val (.ref (own_merge a_NOT_NULL a_NULLABLE a_NULL a_UNKNOWN (own_pick a_NOT_NULL a_NULLABLE a_NULL a_UNKNOWN (i1 &&& (3 : Int32))) (own_pick a_NOT_NULL a_NULLABLE a_NULL a_UNKNOWN i2))), .unset] [(.ref (own_merge a_NOT_NULL a_NULLABLE a_NULL a_UNKNOWN (own_pick a_NOT_NULL a_NULLABLE a_NULL a_UNKNOWN (i0 &&& (3 : Int32))) (own_merge a_NOT_NULL a_NULLABLE a_NULL a_UNKNOWN (own_pick a_NOT_NULL a_NULLABLE a_NULL a_UNKNOWN (i1 &&& (3 : Int32))) (own_pick a_NOT_NULL a_NULLABLE a_NULL a_UNKNOWN i2))))])
  refine own_go (fun t k => XS.astore X27.here hx rfl (hb hby at_165) rfl rfl (l' := #[.val (.int i0), .val (.int i1), .val (.int i2), .val (.int (i0 &&& (3 : Int32))), .val (.int (i1 &&& (3 : Int32))), .val (.ref (own_pick a_NOT_NULL a_NULLABLE a_NULL a_UNKNOWN (i0 &&& (3 : Int32)))), .val (.ref (own_pick a_NOT_NULL a_NULLABLE a_NULL a_UNKNOWN (i1 &&& (3 : Int32)))), .val (.ref (own_pick a_NOT_NULL a_NULLABLE a_NULL a_UNKNOWN i2)), .val (.ref a4), .val (.ref (own_pick a_NOT_NULL a_NULLABLE a_NULL a_UNKNOWN (own_tv (((i0 &&& (3 : Int32)) * (4 : Int32)) + (i1 &&& (3 : Int32)))))), .val (.ref (own_merge a_NOT_NULL a_NULLABLE a_NULL a_UNKNOWN (own_pick a_NOT_NULL a_NULLABLE a_NULL a_UNKNOWN (i0 &&& (3 : Int32))) (own_pick a_NOT_NULL a_NULLABLE a_NULL a_UNKNOWN (i1 &&& (3 : Int32))))), .val (.ref (own_merge a_NOT_NULL a_NULLABLE a_NULL a_UNKNOWN (own_pick a_NOT_NULL a_NULLABLE a_NULL a_UNKNOWN (i1 &&& (3 : Int32))) (own_pick a_NOT_NULL a_NULLABLE a_NULL a_UNKNOWN (i0 &&& (3 : Int32))))), .val (.ref (own_merge a_NOT_NULL a_NULLABLE a_NULL a_UNKNOWN (own_merge a_NOT_NULL a_NULLABLE a_NULL a_UNKNOWN (own_pick a_NOT_NULL a_NULLABLE a_NULL a_UNKNOWN (i0 &&& (3 : Int32))) (own_pick a_NOT_NULL a_NULLABLE a_NULL a_UNKNOWN (i1 &&& (3 : Int32)))) (own_pick a_NOT_NULL a_NULLABLE a_NULL a_UNKNOWN i2))), .val (.ref (own_merge a_NOT_NULL a_NULLABLE a_NULL a_UNKNOWN (own_pick a_NOT_NULL a_NULLABLE a_NULL a_UNKNOWN (i1 &&& (3 : Int32))) (own_pick a_NOT_NULL a_NULLABLE a_NULL a_UNKNOWN i2))), .val (.ref (own_merge a_NOT_NULL a_NULLABLE a_NULL a_UNKNOWN (own_pick a_NOT_NULL a_NULLABLE a_NULL a_UNKNOWN (i0 &&& (3 : Int32))) (own_merge a_NOT_NULL a_NULLABLE a_NULL a_UNKNOWN (own_pick a_NOT_NULL a_NULLABLE a_NULL a_UNKNOWN (i1 &&& (3 : Int32))) (own_pick a_NOT_NULL a_NULLABLE a_NULL a_UNKNOWN i2))))]) rfl k) ?_
  show own_G p e below _ T27 (mkF m 167 #[.val (.int i0), .val (.int i1), .val (.int i2), .val (.int (i0 &&& (3 : Int32))), .val (.int (i1 &&& (3 : Int32))), .val (.ref (own_pick a_NOT_NULL a_NULLABLE a_NULL a_UNKNOWN (i0 &&& (3 : Int32)))), .val (.ref (own_pick a_NOT_NULL a_NULLABLE a_NULL a_UNKNOWN (i1 &&& (3 : Int32)))), .val (.ref (own_pick a_NOT_NULL a_NULLABLE a_NULL a_UNKNOWN i2)), .val (.ref a4), .val (.ref (own_pick a_NOT_NULL a_NULLABLE a_NULL a_UNKNOWN (own_tv (((i0 &&& (3 : Int32)) * (4 : Int32)) + (i1 &&& (3 : Int32)))))), .val (.ref (own_merge a_NOT_NULL a_NULLABLE a_NULL a_UNKNOWN (own_pick a_NOT_NULL a_NULLABLE a_NULL a_UNKNOWN (i0 &&& (3 : Int32))) (own_pick a_NOT_NULL a_NULLABLE a_NULL a_UNKNOWN (i1 &&& (3 : Int32))))), .val (.ref (own_merge a_NOT_NULL a_NULLABLE a_NULL a_UNKNOWN (own_pick a_NOT_NULL a_NULLABLE a_NULL a_UNKNOWN (i1 &&& (3 : Int32))) (own_pick a_NOT_NULL a_NULLABLE a_NULL a_UNKNOWN (i0 &&& (3 : Int32))))), .val (.ref (own_merge a_NOT_NULL a_NULLABLE a_NULL a_UNKNOWN (own_merge a_NOT_NULL a_NULLABLE a_NULL a_UNKNOWN (own_pick a_NOT_NULL a_NULLABLE a_NULL a_UNKNOWN (i0 &&& (3 : Int32))) (own_pick a_NOT_NULL a_NULLABLE a_NULL a_UNKNOWN (i1 &&& (3 : Int32)))) (own_pick a_NOT_NULL a_NULLABLE a_NULL a_UNKNOWN i2))), .val (.ref (own_merge a_NOT_NULL a_NULLABLE a_NULL a_UNKNOWN (own_pick a_NOT_NULL a_NULLABLE a_NULL a_UNKNOWN (i1 &&& (3 : Int32))) (own_pick a_NOT_NULL a_NULLABLE a_NULL a_UNKNOWN i2))), .val (.ref (own_merge a_NOT_NULL a_NULLABLE a_NULL a_UNKNOWN (own_pick a_NOT_NULL a_NULLABLE a_NULL a_UNKNOWN (i0 &&& (3 : Int32))) (own_merge a_NOT_NULL a_NULLABLE a_NULL a_UNKNOWN (own_pick a_NOT_NULL a_NULLABLE a_NULL a_UNKNOWN (i1 &&& (3 : Int32))) (own_pick a_NOT_NULL a_NULLABLE a_NULL a_UNKNOWN i2))))] [])
  refine own_go (fun t k => XS.aload X27.here hx rfl (hb hby at_167) rfl rfl k) ?_
  show own_G p e below _ T27 (mkF m 169 #[.val (.int i0), .val (.int i1), .val (.int i2), .val (.int (i0 &&& (3 : Int32))), .val (.int (i1 &&& (3 : Int32))), .val (.ref (own_pick a_NOT_NULL a_NULLABLE a_NULL a_UNKNOWN (i0 &&& (3 : Int32)))), .val (.ref (own_pick a_NOT_NULL a_NULLABLE a_NULL a_UNKNOWN (i1 &&& (3 : Int32)))), .val (.ref (own_pick a_NOT_NULL a_NULLABLE a_NULL a_UNKNOWN i2)), .val (.ref a4), .val (.ref (own_pick a_NOT_NULL a_NULLABLE a_NULL a_UNKNOWN (own_tv (((i0 &&& (3 : Int32)) * (4 : Int32)) + (i1 &&& (3 : Int32)))))), .val (.ref (own_merge a_NOT_NULL a_NULLABLE a_NULL a_UNKNOWN (own_pick a_NOT_NULL a_NULLABLE a_NULL a_UNKNOWN (i0 &&& (3 : Int32))) (own_pick a_NOT_NULL a_NULLABLE a_NULL a_UNKNOWN (i1 &&& (3 : Int32))))), .val (.ref (own_merge a_NOT_NULL a_NULLABLE a_NULL a_UNKNOWN (own_pick a_NOT_NULL a_NULLABLE a_NULL a_UNKNOWN (i1 &&& (3 : Int32))) (own_pick a_NOT_NULL a_NULLABLE a_NULL a_UNKNOWN (i0 &&& (3 : Int32))))), .val (.ref (own_merge a_NOT_NULL a_NULLABLE a_NULL a_UNKNOWN (own_merge a_NOT_NULL a_NULLABLE a_NULL a_UNKNOWN (own_pick a_NOT_NULL a_NULLABLE a_NULL a_UNKNOWN (i0 &&& (3 : Int32))) (own_pick a_NOT_NULL a_NULLABLE a_NULL a_UNKNOWN (i1 &&& (3 : Int32)))) (own_pick a_NOT_NULL a_NULLABLE a_NULL a_UNKNOWN i2))), .val (.ref (own_merge a_NOT_NULL a_NULLABLE a_NULL a_UNKNOWN (own_pick a_NOT_NULL a_NULLABLE a_NULL a_UNKNOWN (i1 &&& (3 : Int32))) (own_pick a_NOT_NULL a_NULLABLE a_NULL a_UNKNOWN i2))), .val (.ref (own_merge a_NOT_NULL a_NULLABLE a_NULL a_UNKNOWN (own_pick a_NOT_NULL a_NULLABLE a_NULL a_UNKNOWN (i0 &&& (3 : Int32))) (own_merge a_NOT_NULL a_NULLABLE a_NULL a_UNKNOWN (own_pick a_NOT_NULL a_NULLABLE a_NULL a_UNKNOWN (i1 &&& (3 : Int32))) (own_pick a_NOT_NULL a_NULLABLE a_NULL a_UNKNOWN i2))))] [(.ref (own_merge a_NOT_NULL a_NULLABLE a_NULL a_UNKNOWN (own_pick a_NOT_NULL a_NULLABLE a_NULL a_UNKNOWN (i0 &&& (3 : Int32))) (own_pick a_NOT_NULL a_NULLABLE a_NULL a_UNKNOWN (i1 &&& (3 : Int32)))))])
  refine own_go (fun t k => XS.aload X27.here hx rfl (hb hby at_169) rfl rfl k) ?_
  show own_G p e below _ T27 (mkF m 171 #[.val (.int i0), .val (.int i1), .val (.int i2), .val (.int (i0 &&& (3 : Int32))), .val (.int (i1 &&& (3 : Int32))), .val (.ref (own_pick a_NOT_NULL a_NULLABLE a_NULL a_UNKNOWN (i0 &&& (3 : Int32)))), .val (.ref (own_pick a_NOT_NULL a_NULLABLE a_NULL a_UNKNOWN (i1 &&& (3 : Int32)))), .val (.ref (own_pick a_NOT_NULL a_NULLABLE a_NULL a_UNKNOWN i2)), .val (.ref a4), .val (.ref (own_pick a_NOT_NULL a_NULLABLE a_NULL a_UNKNOWN (own_tv (((i0 &&& (3 : Int32)) * (4 : Int32)) + (i1 &&& (3 : Int32)))))), .val (.ref (own_merge a_NOT_NULL a_NULLABLE a_NULL a_UNKNOWN (own_pick a_NOT_NULL a_NULLABLE a_NULL a_UNKNOWN (i0 &&& (3 : Int32))) (own_pick a_NOT_NULL a_NULLABLE a_NULL a_UNKNOWN (i1 &&& (3 : Int32))))), .val (.ref (own_merge a_NOT_NULL a_NULLABLE a_NULL a_UNKNOWN (own_pick a_NOT_NULL a_NULLABLE a_NULL a_UNKNOWN (i1 &&& (3 : Int32))) (own_pick a_NOT_NULL a_NULLABLE a_NULL a_UNKNOWN (i0 &&& (3 : Int32))))), .val (.ref (own_merge a_NOT_NULL a_NULLABLE a_NULL a_UNKNOWN (own_merge a_NOT_NULL a_NULLABLE a_NULL a_UNKNOWN (own_pick a_NOT_NULL a_NULLABLE a_NULL a_UNKNOWN (i0 &&& (3 : Int32))) (own_pick a_NOT_NULL a_NULLABLE a_NULL a_UNKNOWN (i1 &&& (3 : Int32)))) (own_pick a_NOT_NULL a_NULLABLE a_NULL a_UNKNOWN i2))), .val (.ref (own_merge a_NOT_NULL a_NULLABLE a_NULL a_UNKNOWN (own_pick a_NOT_NULL a_NULLABLE a_NULL a_UNKNOWN (i1 &&& (3 : Int32))) (own_pick a_NOT_NULL a_NULLABLE a_NULL a_UNKNOWN i2))), .val (.ref (own_merge a_NOT_NULL a_NULLABLE a_NULL a_UNKNOWN (own_pick a_NOT_NULL a_NULLABLE a_NULL a_UNKNOWN (i0 &&& (3 : Int32))) (own_merge a_NOT_NULL a_NULLABLE a_NULL a_UNKNOWN (own_pick a_NOT_NULL a_NULLABLE a_NULL a_UNKNOWN (i1 &&& (3 : Int32))) (own_pick a_NOT_NULL a_NULLABLE a_NULL a_UNKNOWN i2))))] [(.ref (own_pick a_NOT_NULL a_NULLABLE a_NULL a_UNKNOWN (own_tv (((i0 &&& (3 : Int32)) * (4 : Int32)) + (i1 &&& (3 : Int32)))))), (.ref (own_merge a_NOT_NULL a_NULLABLE a_NULL a_UNKNOWN (own_pick a_NOT_NULL a_NULLABLE a_NULL a_UNKNOWN (i0 &&& (3 : Int32))) (own_pick a_NOT_NULL a_NULLABLE a_NULL a_UNKNOWN (i1 &&& (3 : Int32)))))])
  refine own_go (fun t k => Jvm.Free.XT.acmpNo X27.here hx rfl (hb hby at_171) rfl rfl rfl (own_acnF (own_L1 B i0 i1)) k) ?_
  show own_G p e below _ T27 (mkF m 174 #[.val (.int i0), .val (.int i1), .val (.int i2), .val (.int (i0 &&& (3 : Int32))), .val (.int (i1 &&& (3 : Int32))), .val (.ref (own_pick a_NOT_NULL a_NULLABLE a_NULL a_UNKNOWN (i0 &&& (3 : Int32)))), .val (.ref (own_pick a_NOT_NULL a_NULLABLE a_NULL a_UNKNOWN (i1 &&& (3 : Int32)))), .val (.ref (own_pick a_NOT_NULL a_NULLABLE a_NULL a_UNKNOWN i2)), .val (.ref a4), .val (.ref (own_pick a_NOT_NULL a_NULLABLE a_NULL a_UNKNOWN (own_tv (((i0 &&& (3 : Int32)) * (4 : Int32)) + (i1 &&& (3 : Int32)))))), .val (.ref (own_merge a_NOT_NULL a_NULLABLE a_NULL a_UNKNOWN (own_pick a_NOT_NULL a_NULLABLE a_NULL a_UNKNOWN (i0 &&& (3 : Int32))) (own_pick a_NOT_NULL a_NULLABLE a_NULL a_UNKNOWN (i1 &&& (3 : Int32))))), .val (.ref (own_merge a_NOT_NULL a_NULLABLE a_NULL a_UNKNOWN (own_pick a_NOT_NULL a_NULLABLE a_NULL a_UNKNOWN (i1 &&& (3 : Int32))) (own_pick a_NOT_NULL a_NULLABLE a_NULL a_UNKNOWN (i0 &&& (3 : Int32))))), .val (.ref (own_merge a_NOT_NULL a_NULLABLE a_NULL a_UNKNOWN (own_merge a_NOT_NULL a_NULLABLE a_NULL a_UNKNOWN (own_pick a_NOT_NULL a_NULLABLE a_NULL a_UNKNOWN (i0 &&& (3 : Int32))) (own_pick a_NOT_NULL a_NULLABLE a_NULL a_UNKNOWN (i1 &&& (3 : Int32)))) (own_pick a_NOT_NULL a_NULLABLE a_NULL a_UNKNOWN i2))), .val (.ref (own_merge a_NOT_NULL a_NULLABLE a_NULL a_UNKNOWN (own_pick a_NOT_NULL a_NULLABLE a_NULL a_UNKNOWN (i1 &&& (3 : Int32))) (own_pick a_NOT_NULL a_NULLABLE a_NULL a_UNKNOWN i2))), .val (.ref (own_merge a_NOT_NULL a_NULLABLE a_NULL a_UNKNOWN (own_pick a_NOT_NULL a_NULLABLE a_NULL a_UNKNOWN (i0 &&& (3 : Int32))) (own_merge a_NOT_NULL a_NULLABLE a_NULL a_UNKNOWN (own_pick a_NOT_NULL a_NULLABLE a_NULL a_UNKNOWN (i1 &&& (3 : Int32))) (own_pick a_NOT_NULL a_NULLABLE a_NULL a_UNKNOWN i2))))] [])
  refine own_go (fun t k => XS.aload X27.here hx rfl (hb hby at_174) rfl rfl k) ?_
  show own_G p e below _ T27 (mkF m 176 #[.val (.int i0), .val (.int i1), .val (.int i2), .val (.int (i0 &&& (3 : Int32))), .val (.int (i1 &&& (3 : Int32))), .val (.ref (own_pick a_NOT_NULL a_NULLABLE a_NULL a_UNKNOWN (i0 &&& (3 : Int32)))), .val (.ref (own_pick a_NOT_NULL a_NULLABLE a_NULL a_UNKNOWN (i1 &&& (3 : Int32)))), .val (.ref (own_pick a_NOT_NULL a_NULLABLE a_NULL a_UNKNOWN i2)), .val (.ref a4), .val (.ref (own_pick a_NOT_NULL a_NULLABLE a_NULL a_UNKNOWN (own_tv (((i0 &&& (3 : Int32)) * (4 : Int32)) + (i1 &&& (3 : Int32)))))), .val (.ref (own_merge a_NOT_NULL a_NULLABLE a_NULL a_UNKNOWN (own_pick a_NOT_NULL a_NULLABLE a_NULL a_UNKNOWN (i0 &&& (3 : Int32))) (own_pick a_NOT_NULL a_NULLABLE a_NULL a_UNKNOWN (i1 &&& (3 : Int32))))), .val (.ref (own_merge a_NOT_NULL a_NULLABLE a_NULL a_UNKNOWN (own_pick a_NOT_NULL a_NULLABLE a_NULL a_UNKNOWN (i1 &&& (3 : Int32))) (own_pick a_NOT_NULL a_NULLABLE a_NULL a_UNKNOWN (i0 &&& (3 : Int32))))), .val (.ref (own_merge a_NOT_NULL a_NULLABLE a_NULL a_UNKNOWN (own_merge a_NOT_NULL a_NULLABLE a_NULL a_UNKNOWN (own_pick a_NOT_NULL a_NULLABLE a_NULL a_UNKNOWN (i0 &&& (3 : Int32))) (own_pick a_NOT_NULL a_NULLABLE a_NULL a_UNKNOWN (i1 &&& (3 : Int32)))) (own_pick a_NOT_NULL a_NULLABLE a_NULL a_UNKNOWN i2))), .val (.ref (own_merge a_NOT_NULL a_NULLABLE a_NULL a_UNKNOWN (own_pick a_NOT_NULL a_NULLABLE a_NULL a_UNKNOWN (i1 &&& (3 : Int32))) (own_pick a_NOT_NULL a_NULLABLE a_NULL a_UNKNOWN i2))), .val (.ref (own_merge a_NOT_NULL a_NULLABLE a_NULL a_UNKNOWN (own_pick a_NOT_NULL a_NULLABLE a_NULL a_UNKNOWN (i0 &&& (3 : Int32))) (own_merge a_NOT_NULL a_NULLABLE a_NULL a_UNKNOWN (own_pick a_NOT_NULL a_NULLABLE a_NULL a_UNKNOWN (i1 &&& (3 : Int32))) (own_pick a_NOT_NULL a_NULLABLE a_NULL a_UNKNOWN i2))))] [(.ref (own_merge a_NOT_NULL a_NULLABLE a_NULL a_UNKNOWN (own_pick a_NOT_NULL a_NULLABLE a_NULL a_UNKNOWN (i1 &&& (3 : Int32))) (own_pick a_NOT_NULL a_NULLABLE a_NULL a_UNKNOWN (i0 &&& (3 : Int32)))))])
  refine own_go (fun t k => XS.aload X27.here hx rfl (hb hby at_176) rfl rfl k) ?_
  show own_G p e below _ T27 (mkF m 178 #[.val (.int i0), .val (.int i1), .val (.int i2), .val (.int (i0 &&& (3 : Int32))), .val (.int (i1 &&& (3 : Int32))), .val (.ref (own_pick a_NOT_NULL a_NULLABLE a_NULL a_UNKNOWN (i0 &&& (3 : Int32)))), .val (.ref (own_pick a_NOT_NULL a_NULLABLE a_NULL a_UNKNOWN (i1 &&& (3 : Int32)))), .val (.ref (own_pick a_NOT_NULL a_NULLABLE a_NULL a_UNKNOWN i2)), .val (.ref a4), .val (.ref (own_pick a_NOT_NULL a_NULLABLE a_NULL a_UNKNOWN (own_tv (((i0 &&& (3 : Int32)) * (4 : Int32)) + (i1 &&& (3 : Int32)))))), .val (.ref (own_merge a_NOT_NULL a_NULLABLE a_NULL a_UNKNOWN (own_pick a_NOT_NULL a_NULLABLE a_NULL a_UNKNOWN (i0 &&& (3 : Int32))) (own_pick a_NOT_NULL a_NULLABLE a_NULL a_UNKNOWN (i1 &&& (3 : Int32))))), .val (.ref (own_merge a_NOT_NULL a_NULLABLE a_NULL a_UNKNOWN (own_pick a_NOT_NULL a_NULLABLE a_NULL a_UNKNOWN (i1 &&& (3 : Int32))) (own_pick a_NOT_NULL a_NULLABLE a_NULL a_UNKNOWN (i0 &&& (3 : Int32))))), .val (.ref (own_merge a_NOT_NULL a_NULLABLE a_NULL a_UNKNOWN (own_merge a_NOT_NULL a_NULLABLE a_NULL a_UNKNOWN (own_pick a_NOT_NULL a_NULLABLE a_NULL a_UNKNOWN (i0 &&& (3 : Int32))) (own_pick a_NOT_NULL a_NULLABLE a_NULL a_UNKNOWN (i1 &&& (3 : Int32)))) (own_pick a_NOT_NULL a_NULLABLE a_NULL a_UNKNOWN i2))), .val (.ref (own_merge a_NOT_NULL a_NULLABLE a_NULL a_UNKNOWN (own_pick a_NOT_NULL a_NULLABLE a_NULL a_UNKNOWN (i1 &&& (3 : Int32))) (own_pick a_NOT_NULL a_NULLABLE a_NULL a_UNKNOWN i2))), .val (.ref (own_merge a_NOT_NULL a_NULLABLE a_NULL a_UNKNOWN (own_pick a_NOT_NULL a_NULLABLE a_NULL a_UNKNOWN (i0 &&& (3 : Int32))) (own_merge a_NOT_NULL a_NULLABLE a_NULL a_UNKNOWN (own_pick a_NOT_NULL a_NULLABLE a_NULL a_UNKNOWN (i1 &&& (3 : Int32))) (own_pick a_NOT_NULL a_NULLABLE a_NULL a_UNKNOWN i2))))] [(.ref (own_pick a_NOT_NULL a_NULLABLE a_NULL a_UNKNOWN (own_tv (((i0 &&& (3 : Int32)) * (4 : Int32)) + (i1 &&& (3 : Int32)))))), (.ref (own_merge a_NOT_NULL a_NULLABLE a_NULL a_UNKNOWN (own_pick a_NOT_NULL a_NULLABLE a_NULL a_UNKNOWN (i1 &&& (3 : Int32))) (own_pick a_NOT_NULL a_NULLABLE a_NULL a_UNKNOWN (i0 &&& (3 : Int32)))))])
  refine own_go (fun t k => Jvm.Free.XT.acmpNo X27.here hx rfl (hb hby at_178) rfl rfl rfl (own_acnF (own_L2 B i0 i1)) k) ?_
  show own_G p e below _ T27 (mkF m 181 #[.val (.int i0), .val (.int i1), .val (.int i2), .val (.int (i0 &&& (3 : Int32))), .val (.int (i1 &&& (3 : Int32))), .val (.ref (own_pick a_NOT_NULL a_NULLABLE a_NULL a_UNKNOWN (i0 &&& (3 : Int32)))), .val (.ref (own_pick a_NOT_NULL a_NULLABLE a_NULL a_UNKNOWN (i1 &&& (3 : Int32)))), .val (.ref (own_pick a_NOT_NULL a_NULLABLE a_NULL a_UNKNOWN i2)), .val (.ref a4), .val (.ref (own_pick a_NOT_NULL a_NULLABLE a_NULL a_UNKNOWN (own_tv (((i0 &&& (3 : Int32)) * (4 : Int32)) + (i1 &&& (3 : Int32)))))), .val (.ref (own_merge a_NOT_NULL a_NULLABLE a_NULL a_UNKNOWN (own_pick a_NOT_NULL a_NULLABLE a_NULL a_UNKNOWN (i0 &&& (3 : Int32))) (own_pick a_NOT_NULL a_NULLABLE a_NULL a_UNKNOWN (i1 &&& (3 : Int32))))), .val (.ref (own_merge a_NOT_NULL a_NULLABLE a_NULL a_UNKNOWN (own_pick a_NOT_NULL a_NULLABLE a_NULL a_UNKNOWN (i1 &&& (3 : Int32))) (own_pick a_NOT_NULL a_NULLABLE a_NULL a_UNKNOWN (i0 &&& (3 : Int32))))), .val (.ref (own_merge a_NOT_NULL a_NULLABLE a_NULL a_UNKNOWN (own_merge a_NOT_NULL a_NULLABLE a_NULL a_UNKNOWN (own_pick a_NOT_NULL a_NULLABLE a_NULL a_UNKNOWN (i0 &&& (3 : Int32))) (own_pick a_NOT_NULL a_NULLABLE a_NULL a_UNKNOWN (i1 &&& (3 : Int32)))) (own_pick a_NOT_NULL a_NULLABLE a_NULL a_UNKNOWN i2))), .val (.ref (own_merge a_NOT_NULL a_NULLABLE a_NULL a_UNKNOWN (own_pick a_NOT_NULL a_NULLABLE a_NULL a_UNKNOWN (i1 &&& (3 : Int32))) (own_pick a_NOT_NULL a_NULLABLE a_NULL a_UNKNOWN i2))), .val (.ref (own_merge a_NOT_NULL a_NULLABLE a_NULL a_UNKNOWN (own_pick a_NOT_NULL a_NULLABLE a_NULL a_UNKNOWN (i0 &&& (3 : Int32))) (own_merge a_NOT_NULL a_NULLABLE a_NULL a_UNKNOWN (own_pick a_NOT_NULL a_NULLABLE a_NULL a_UNKNOWN (i1 &&& (3 : Int32))) (own_pick a_NOT_NULL a_NULLABLE a_NULL a_UNKNOWN i2))))] [])
  refine own_go (fun t k => XS.aload X27.here hx rfl (hb hby at_181) rfl rfl k) ?_
  show own_G p e below _ T27 (mkF m 183 #[.val (.int i0), .val (.int i1), .val (.int i2), .val (.int (i0 &&& (3 : Int32))), .val (.int (i1 &&& (3 : Int32))), .val (.ref (own_pick a_NOT_NULL a_NULLABLE a_NULL a_UNKNOWN (i0 &&& (3 : Int32)))), .val (.ref (own_pick a_NOT_NULL a_NULLABLE a_NULL a_UNKNOWN (i1 &&& (3 : Int32)))), .val (.ref (own_pick a_NOT_NULL a_NULLABLE a_NULL a_UNKNOWN i2)), .val (.ref a4), .val (.ref (own_pick a_NOT_NULL a_NULLABLE a_NULL a_UNKNOWN (own_tv (((i0 &&& (3 : Int32)) * (4 : Int32)) + (i1 &&& (3 : Int32)))))), .val (.ref (own_merge a_NOT_NULL a_NULLABLE a_NULL a_UNKNOWN (own_pick a_NOT_NULL a_NULLABLE a_NULL a_UNKNOWN (i0 &&& (3 : Int32))) (own_pick a_NOT_NULL a_NULLABLE a_NULL a_UNKNOWN (i1 &&& (3 : Int32))))), .val (.ref (own_merge a_NOT_NULL a_NULLABLE a_NULL a_UNKNOWN (own_pick a_NOT_NULL a_NULLABLE a_NULL a_UNKNOWN (i1 &&& (3 : Int32))) (own_pick a_NOT_NULL a_NULLABLE a_NULL a_UNKNOWN (i0 &&& (3 : Int32))))), .val (.ref (own_merge a_NOT_NULL a_NULLABLE a_NULL a_UNKNOWN (own_merge a_NOT_NULL a_NULLABLE a_NULL a_UNKNOWN (own_pick a_NOT_NULL a_NULLABLE a_NULL a_UNKNOWN (i0 &&& (3 : Int32))) (own_pick a_NOT_NULL a_NULLABLE a_NULL a_UNKNOWN (i1 &&& (3 : Int32)))) (own_pick a_NOT_NULL a_NULLABLE a_NULL a_UNKNOWN i2))), .val (.ref (own_merge a_NOT_NULL a_NULLABLE a_NULL a_UNKNOWN (own_pick a_NOT_NULL a_NULLABLE a_NULL a_UNKNOWN (i1 &&& (3 : Int32))) (own_pick a_NOT_NULL a_NULLABLE a_NULL a_UNKNOWN i2))), .val (.ref (own_merge a_NOT_NULL a_NULLABLE a_NULL a_UNKNOWN (own_pick a_NOT_NULL a_NULLABLE a_NULL a_UNKNOWN (i0 &&& (3 : Int32))) (own_merge a_NOT_NULL a_NULLABLE a_NULL a_UNKNOWN (own_pick a_NOT_NULL a_NULLABLE a_NULL a_UNKNOWN (i1 &&& (3 : Int32))) (own_pick a_NOT_NULL a_NULLABLE a_NULL a_UNKNOWN i2))))] [(.ref (own_merge a_NOT_NULL a_NULLABLE a_NULL a_UNKNOWN (own_merge a_NOT_NULL a_NULLABLE a_NULL a_UNKNOWN (own_pick a_NOT_NULL a_NULLABLE a_NULL a_UNKNOWN (i0 &&& (3 : Int32))) (own_pick a_NOT_NULL a_NULLABLE a_NULL a_UNKNOWN (i1 &&& (3 : Int32)))) (own_pick a_NOT_NULL a_NULLABLE a_NULL a_UNKNOWN i2)))])
  refine own_go (fun t k => XS.aload X27.here hx rfl (hb hby at_183) rfl rfl k) ?_
  show own_G p e below _ T27 (mkF m 185 #[.val (.int i0), .val (.int i1), .val (.int i2), .val (.int (i0 &&& (3 : Int32))), .val (.int (i1 &&& (3 : Int32))), .val (.ref (own_pick a_NOT_NULL a_NULLABLE a_NULL a_UNKNOWN (i0 &&& (3 : Int32)))), .val (.ref (own_pick a_NOT_NULL a_NULLABLE a_NULL a_UNKNOWN (i1 &&& (3 : Int32)))), .val (.ref (own_pick a_NOT_NULL a_NULLABLE a_NULL a_UNKNOWN i2)), .val (.ref a4), .val (.ref (own_pick a_NOT_NULL a_NULLABLE a_NULL a_UNKNOWN (own_tv (((i0 &&& (3 : Int32)) * (4 : Int32)) + (i1 &&& (3 : Int32)))))), .val (.ref (own_merge a_NOT_NULL a_NULLABLE a_NULL a_UNKNOWN (own_pick a_NOT_NULL a_NULLABLE a_NULL a_UNKNOWN (i0 &&& (3 : Int32))) (own_pick a_NOT_NULL a_NULLABLE a_NULL a_UNKNOWN (i1 &&& (3 : Int32))))), .val (.ref (own_merge a_NOT_NULL a_NULLABLE a_NULL a_UNKNOWN (own_pick a_NOT_NULL a_NULLABLE a_NULL a_UNKNOWN (i1 &&& (3 : Int32))) (own_pick a_NOT_NULL a_NULLABLE a_NULL a_UNKNOWN (i0 &&& (3 : Int32))))), .val (.ref (own_merge a_NOT_NULL a_NULLABLE a_NULL a_UNKNOWN (own_merge a_NOT_NULL a_NULLABLE a_NULL a_UNKNOWN (own_pick a_NOT_NULL a_NULLABLE a_NULL a_UNKNOWN (i0 &&& (3 : Int32))) (own_pick a_NOT_NULL a_NULLABLE a_NULL a_UNKNOWN (i1 &&& (3 : Int32)))) (own_pick a_NOT_NULL a_NULLABLE a_NULL a_UNKNOWN i2))), .val (.ref (own_merge a_NOT_NULL a_NULLABLE a_NULL a_UNKNOWN (own_pick a_NOT_NULL a_NULLABLE a_NULL a_UNKNOWN (i1 &&& (3 : Int32))) (own_pick a_NOT_NULL a_NULLABLE a_NULL a_UNKNOWN i2))), .val (.ref (own_merge a_NOT_NULL a_NULLABLE a_NULL a_UNKNOWN (own_pick a_NOT_NULL a_NULLABLE a_NULL a_UNKNOWN (i0 &&& (3 : Int32))) (own_merge a_NOT_NULL a_NULLABLE a_NULL a_UNKNOWN (own_pick a_NOT_NULL a_NULLABLE a_NULL a_UNKNOWN (i1 &&& (3 : Int32))) (own_pick a_NOT_NULL a_NULLABLE a_NULL a_UNKNOWN i2))))] [(.ref (own_merge a_NOT_NULL a_NULLABLE a_NULL a_UNKNOWN (own_pick a_NOT_NULL a_NULLABLE a_NULL a_UNKNOWN (i0 &&& (3 : Int32))) (own_merge a_NOT_NULL a_NULLABLE a_NULL a_UNKNOWN (own_pick a_NOT_NULL a_NULLABLE a_NULL a_UNKNOWN (i1 &&& (3 : Int32))) (own_pick a_NOT_NULL a_NULLABLE a_NULL a_UNKNOWN i2)))), (.ref (own_merge a_NOT_NULL a_NULLABLE a_NULL a_UNKNOWN (own_merge a_NOT_NULL a_NULLABLE a_NULL a_UNKNOWN (own_pick a_NOT_NULL a_NULLABLE a_NULL a_UNKNOWN (i0 &&& (3 : Int32))) (own_pick a_NOT_NULL a_NULLABLE a_NULL a_UNKNOWN (i1 &&& (3 : Int32)))) (own_pick a_NOT_NULL a_NULLABLE a_NULL a_UNKNOWN i2)))])
  refine own_go (fun t k => Jvm.Free.XT.acmpNo X27.here hx rfl (hb hby at_185) rfl rfl rfl (own_acnF (own_L3 B (i0 &&& 3) (i1 &&& 3) i2)) k) ?_
  show own_G p e below _ T27 (mkF m 188 #[.val (.int i0), .val (.int i1), .val (.int i2), .val (.int (i0 &&& (3 : Int32))), .val (.int (i1 &&& (3 : Int32))), .val (.ref (own_pick a_NOT_NULL a_NULLABLE a_NULL a_UNKNOWN (i0 &&& (3 : Int32)))), .val (.ref (own_pick a_NOT_NULL a_NULLABLE a_NULL a_UNKNOWN (i1 &&& (3 : Int32)))), .val (.ref (own_pick a_NOT_NULL a_NULLABLE a_NULL a_UNKNOWN i2)), .val (.ref a4), .val (.ref (own_pick a_NOT_NULL a_NULLABLE a_NULL a_UNKNOWN (own_tv (((i0 &&& (3 : Int32)) * (4 : Int32)) + (i1 &&& (3 : Int32)))))), .val (.ref (own_merge a_NOT_NULL a_NULLABLE a_NULL a_UNKNOWN (own_pick a_NOT_NULL a_NULLABLE a_NULL a_UNKNOWN (i0 &&& (3 : Int32))) (own_pick a_NOT_NULL a_NULLABLE a_NULL a_UNKNOWN (i1 &&& (3 : Int32))))), .val (.ref (own_merge a_NOT_NULL a_NULLABLE a_NULL a_UNKNOWN (own_pick a_NOT_NULL a_NULLABLE a_NULL a_UNKNOWN (i1 &&& (3 : Int32))) (own_pick a_NOT_NULL a_NULLABLE a_NULL a_UNKNOWN (i0 &&& (3 : Int32))))), .val (.ref (own_merge a_NOT_NULL a_NULLABLE a_NULL a_UNKNOWN (own_merge a_NOT_NULL a_NULLABLE a_NULL a_UNKNOWN (own_pick a_NOT_NULL a_NULLABLE a_NULL a_UNKNOWN (i0 &&& (3 : Int32))) (own_pick a_NOT_NULL a_NULLABLE a_NULL a_UNKNOWN (i1 &&& (3 : Int32)))) (own_pick a_NOT_NULL a_NULLABLE a_NULL a_UNKNOWN i2))), .val (.ref (own_merge a_NOT_NULL a_NULLABLE a_NULL a_UNKNOWN (own_pick a_NOT_NULL a_NULLABLE a_NULL a_UNKNOWN (i1 &&& (3 : Int32))) (own_pick a_NOT_NULL a_NULLABLE a_NULL a_UNKNOWN i2))), .val (.ref (own_merge a_NOT_NULL a_NULLABLE a_NULL a_UNKNOWN (own_pick a_NOT_NULL a_NULLABLE a_NULL a_UNKNOWN (i0 &&& (3 : Int32))) (own_merge a_NOT_NULL a_NULLABLE a_NULL a_UNKNOWN (own_pick a_NOT_NULL a_NULLABLE a_NULL a_UNKNOWN (i1 &&& (3 : Int32))) (own_pick a_NOT_NULL a_NULLABLE a_NULL a_UNKNOWN i2))))] [])
  refine own_go (fun t k => XS.iconst X27.here hx rfl (hb hby at_188) k) ?_
  show own_G p e below _ T27 (mkF m 189 #[.val (.int i0), .val (.int i1), .val (.int i2), .val (.int (i0 &&& (3 : Int32))), .val (.int (i1 &&& (3 : Int32))), .val (.ref (own_pick a_NOT_NULL a_NULLABLE a_NULL a_UNKNOWN (i0 &&& (3 : Int32)))), .val (.ref (own_pick a_NOT_NULL a_NULLABLE a_NULL a_UNKNOWN (i1 &&& (3 : Int32)))), .val (.ref (own_pick a_NOT_NULL a_NULLABLE a_NULL a_UNKNOWN i2)), .val (.ref a4), .val (.ref (own_pick a_NOT_NULL a_NULLABLE a_NULL a_UNKNOWN (own_tv (((i0 &&& (3 : Int32)) * (4 : Int32)) + (i1 &&& (3 : Int32)))))), .val (.ref (own_merge a_NOT_NULL a_NULLABLE a_NULL a_UNKNOWN (own_pick a_NOT_NULL a_NULLABLE a_NULL a_UNKNOWN (i0 &&& (3 : Int32))) (own_pick a_NOT_NULL a_NULLABLE a_NULL a_UNKNOWN (i1 &&& (3 : Int32))))), .val (.ref (own_merge a_NOT_NULL a_NULLABLE a_NULL a_UNKNOWN (own_pick a_NOT_NULL a_NULLABLE a_NULL a_UNKNOWN (i1 &&& (3 : Int32))) (own_pick a_NOT_NULL a_NULLABLE a_NULL a_UNKNOWN (i0 &&& (3 : Int32))))), .val (.ref (own_merge a_NOT_NULL a_NULLABLE a_NULL a_UNKNOWN (own_merge a_NOT_NULL a_NULLABLE a_NULL a_UNKNOWN (own_pick a_NOT_NULL a_NULLABLE a_NULL a_UNKNOWN (i0 &&& (3 : Int32))) (own_pick a_NOT_NULL a_NULLABLE a_NULL a_UNKNOWN (i1 &&& (3 : Int32)))) (own_pick a_NOT_NULL a_NULLABLE a_NULL a_UNKNOWN i2))), .val (.ref (own_merge a_NOT_NULL a_NULLABLE a_NULL a_UNKNOWN (own_pick a_NOT_NULL a_NULLABLE a_NULL a_UNKNOWN (i1 &&& (3 : Int32))) (own_pick a_NOT_NULL a_NULLABLE a_NULL a_UNKNOWN i2))), .val (.ref (own_merge a_NOT_NULL a_NULLABLE a_NULL a_UNKNOWN (own_pick a_NOT_NULL a_NULLABLE a_NULL a_UNKNOWN (i0 &&& (3 : Int32))) (own_merge a_NOT_NULL a_NULLABLE a_NULL a_UNKNOWN (own_pick a_NOT_NULL a_NULLABLE a_NULL a_UNKNOWN (i1 &&& (3 : Int32))) (own_pick a_NOT_NULL a_NULLABLE a_NULL a_UNKNOWN i2))))] [(.int (1 : Int32))])
  refine own_go (fun t k => XS.goto X27.here hx rfl (pc0 := 189) (pc' := 193) rfl (hb hby at_189) (by decide) (by decide) k) ?_
  show own_G p e below _ T27 (mkF m 193 #[.val (.int i0), .val (.int i1), .val (.int i2), .val (.int (i0 &&& (3 : Int32))), .val (.int (i1 &&& (3 : Int32))), .val (.ref (own_pick a_NOT_NULL a_NULLABLE a_NULL a_UNKNOWN (i0 &&& (3 : Int32)))), .val (.ref (own_pick a_NOT_NULL a_NULLABLE a_NULL a_UNKNOWN (i1 &&& (3 : Int32)))), .val (.ref (own_pick a_NOT_NULL a_NULLABLE a_NULL a_UNKNOWN i2)), .val (.ref a4), .val (.ref (own_pick a_NOT_NULL a_NULLABLE a_NULL a_UNKNOWN (own_tv (((i0 &&& (3 : Int32)) * (4 : Int32)) + (i1 &&& (3 : Int32)))))), .val (.ref (own_merge a_NOT_NULL a_NULLABLE a_NULL a_UNKNOWN (own_pick a_NOT_NULL a_NULLABLE a_NULL a_UNKNOWN (i0 &&& (3 : Int32))) (own_pick a_NOT_NULL a_NULLABLE a_NULL a_UNKNOWN (i1 &&& (3 : Int32))))), .val (.ref (own_merge a_NOT_NULL a_NULLABLE a_NULL a_UNKNOWN (own_pick a_NOT_NULL a_NULLABLE a_NULL a_UNKNOWN (i1 &&& (3 : Int32))) (own_pick a_NOT_NULL a_NULLABLE a_NULL a_UNKNOWN (i0 &&& (3 : Int32))))), .val (.ref (own_merge a_NOT_NULL a_NULLABLE a_NULL a_UNKNOWN (own_merge a_NOT_NULL a_NULLABLE a_NULL a_UNKNOWN (own_pick a_NOT_NULL a_NULLABLE a_NULL a_UNKNOWN (i0 &&& (3 : Int32))) (own_pick a_NOT_NULL a_NULLABLE a_NULL a_UNKNOWN (i1 &&& (3 : Int32)))) (own_pick a_NOT_NULL a_NULLABLE a_NULL a_UNKNOWN i2))), .val (.ref (own_merge a_NOT_NULL a_NULLABLE a_NULL a_UNKNOWN (own_pick a_NOT_NULL a_NULLABLE a_NULL a_UNKNOWN (i1 &&& (3 : Int32))) (own_pick a_NOT_NULL a_NULLABLE a_NULL a_UNKNOWN i2))), .val (.ref (own_merge a_NOT_NULL a_NULLABLE a_NULL a_UNKNOWN (own_pick a_NOT_NULL a_NULLABLE a_NULL a_UNKNOWN (i0 &&& (3 : Int32))) (own_merge a_NOT_NULL a_NULLABLE a_NULL a_UNKNOWN (own_pick a_NOT_NULL a_NULLABLE a_NULL a_UNKNOWN (i1 &&& (3 : Int32))) (own_pick a_NOT_NULL a_NULLABLE a_NULL a_UNKNOWN i2))))] [(.int (1 : Int32))])
  exact own_retN X27 hx hlk hret (by simp) (hb hby at_193) (by decide) (by decide) ⟨rfl, N27⟩
set_option maxRecDepth 65536 in
set_option maxHeartbeats 40000000 in
theorem comes_1 {Post : Tables → Env → Array Value → State → Outcome → State → Prop} (hpost : ∀ tb e args s v u, (limb_1_1.after args s (.returned v) u = true ∧ limb_1_2.after args s (.returned v) u = true ∧ True) → FrameEnd s (.returned v) u (Jvm.fieldLocs frame_1_writes args s ++ Jvm.arrayLocs frame_1_arrays args s ++ Jvm.staticLocs frame_1_statics s) 16 128 → Post tb e args s (.returned v) u) :
    ArmFor flags0 classFile x code maxLocals ret World_1 tables_1 room_1 Calls_1 rest_1 Pre_1 Post := by
  intro l hfl _ _ p e ha hc hk s m args below hf hA hF happ hP
  obtain ⟨hcalls, hrest, hpre⟩ := hP
  obtain ⟨-, -, -, hnamed, -, -, -, hat⟩ := (Spec.applies_iff hf).mp happ
  obtain ⟨hg, hn⟩ := and_e (Cond.before_iff.mp (show (Jvm.Cond.and given_1 narrow_1).before args s = true from hpre))
  obtain ⟨h1, hg⟩ := and_e hg
  obtain ⟨w0, w1, w2, rfl⟩ : ∃ w0 w1 w2 : Value, args = #[w0, w1, w2] := by
    have hs : args.size = 3 := by simpa [Cond.value, given_1] using h1
    obtain ⟨L⟩ := args
    match L, hs with
    | [w0, w1, w2], _ => exact ⟨w0, w1, w2, rfl⟩
  obtain ⟨hi0, hg⟩ := and_e hg
  obtain ⟨i0, ei0⟩ := is_v hi0
  obtain rfl : w0 = (.int i0) := Option.some.inj ei0
  obtain ⟨hi1, hg⟩ := and_e hg
  obtain ⟨i1, ei1⟩ := is_v hi1
  obtain rfl : w1 = (.int i1) := Option.some.inj ei1
  obtain ⟨i2, ei2⟩ := is_v hg
  obtain rfl : w2 = (.int i2) := Option.some.inj ei2
  have hw := fun d (hd : d ∈ tables_1) => atoms_spec (ws := Jvm.Cond.code x code maxLocals ret :: tables_1) hat d (List.mem_cons_of_mem _ hd)
  obtain ⟨n0, hn⟩ := and_e hn
  obtain ⟨a_NOT_NULL, v_NOT_NULL⟩ := exa_v n0
  have S_NOT_NULL := Sta.start v_NOT_NULL (Or.inr ⟨(hw _ (List.mem_of_getElem? (i := 5) rfl)), (hw _ (List.mem_of_getElem? (i := 6) rfl))⟩)
  have E_NOT_NULL := Exa.start v_NOT_NULL n0
  obtain ⟨n1, hn⟩ := and_e hn
  obtain ⟨a_NULLABLE, v_NULLABLE⟩ := exa_v n1
  have S_NULLABLE := Sta.start v_NULLABLE (Or.inr ⟨(hw _ (List.mem_of_getElem? (i := 5) rfl)), (hw _ (List.mem_of_getElem? (i := 8) rfl))⟩)
  have E_NULLABLE := Exa.start v_NULLABLE n1
  obtain ⟨n2, hn⟩ := and_e hn
  obtain ⟨a_NULL, v_NULL⟩ := exa_v n2
  have S_NULL := Sta.start v_NULL (Or.inr ⟨(hw _ (List.mem_of_getElem? (i := 5) rfl)), (hw _ (List.mem_of_getElem? (i := 10) rfl))⟩)
  have E_NULL := Exa.start v_NULL n2
  obtain ⟨n3, hn⟩ := and_e hn
  have F_NOT_NULL_ordinal := own_fld v_NOT_NULL n3
  obtain ⟨n4, hn⟩ := and_e hn
  have F_NULLABLE_ordinal := own_fld v_NULLABLE n4
  obtain ⟨n5, hn⟩ := and_e hn
  have F_NULL_ordinal := own_fld v_NULL n5
  obtain ⟨n6, hn⟩ := and_e hn
  obtain ⟨a_UNKNOWN, v_UNKNOWN⟩ := exa_v n6
  have S_UNKNOWN := Sta.start v_UNKNOWN (Or.inr ⟨(hw _ (List.mem_of_getElem? (i := 5) rfl)), (hw _ (List.mem_of_getElem? (i := 19) rfl))⟩)
  have E_UNKNOWN := Exa.start v_UNKNOWN n6
  have F_UNKNOWN_ordinal := own_fld v_UNKNOWN hn
  have B : own_B s s.heap a_NOT_NULL a_NULLABLE a_NULL a_UNKNOWN := ⟨S_NOT_NULL, E_NOT_NULL, S_NULLABLE, E_NULLABLE, S_NULL, E_NULL, F_NOT_NULL_ordinal, F_NULLABLE_ordinal, F_NULL_ordinal, S_UNKNOWN, E_UNKNOWN, F_UNKNOWN_ordinal⟩
  obtain ⟨n, o, h1, h2, h3, _, L, rfl, ⟨rfl, N⟩, hq⟩ := rm0 l s _ hw i0 i1 i2 a_NOT_NULL a_NULLABLE a_NULL a_UNKNOWN s.heap s.heap.size (Nat.le_refl _) B tables_1 p e ha hc hk s m _ below hf ((Spec.applies_iff_loose hf).mp happ).1 ⟨rfl, State.Warmed39.refl s, rfl⟩ trivial
  refine ⟨n, _, h1, h2, h3, hpost _ _ _ _ _ _ ⟨Jvm.Cond.after_iff.mpr rfl, Jvm.Cond.after_iff.mpr (eq_i res_at (Term.int_eval (1)) rfl), trivial⟩ ⟨hq.1, hq.2.1, (hq.2.2.sift fun y hy => Or.inr (N y hy)).mono (by decide) (by decide)⟩⟩
theorem main_1_1 : Claimed_1_1 := comes_1 fun _ _ _ _ _ _ h hF => ⟨h.1, hF⟩
theorem main_1_2 : Claimed_1_2 := comes_1 fun _ _ _ _ _ _ h hF => ⟨h.2.1, hF⟩
end Jvm.Pilot.@@N@@
namespace Jvm.Pilot.@@N@@
open Jvm Jvm.ClassFile Sem Op Lib Jvm.Free Jvm.Stand Jvm.Pilot.@@N@@.Jvm.D
/-! MADE BY PROGRAM (witnessworld.py) out of the Statement's table words and the real class files: 12 classes; the members and pool entries that the words name. The judged class is class 1, her method 2. -/
namespace start1
open Jvm.ClassFile
def u (s : String) : CpInfo := .utf8 (stringToUtf16 s)
/-- a pool by its gaps: so many unusable entries, then the entry; so many at the end -/
def gap : Nat → List CpInfo → List CpInfo
  | 0, r => r
  | n + 1, r => .unusable :: gap n r
def poolList (es : List (Nat × CpInfo)) (last : Nat) : List CpInfo := es.foldr (fun e r => gap e.1 (e.2 :: r)) (gap last [])
def pool (es : List (Nat × CpInfo)) (last : Nat) : Array CpInfo := ⟨poolList es last⟩
def fileOf (pool : Array CpInfo) (this : Nat) (attrs : Array Attribute := #[]) (ms : Array MethodInfo := #[]) (fl : Nat := 33) (sup : Nat := 0) (ifs : Array Nat := #[]) (fds : Array FieldInfo := #[]) : ClassFile where
  minorVersion := 0
  majorVersion := 65
  constantPool := pool
  accessFlags := fl
  thisClass := this
  superClass := sup
  interfaces := ifs
  fields := fds
  methods := ms
  attributes := attrs
def plain (name : String) (sup : Option ClassId) : Class where
  name := name
  kind := .ordinary
  loader := none
  accessFlags := 33
  super := sup
  interfaces := #[]
  cf := none
  fields := #[]
  methods := #[]
  instanceTypes := #[]
  staticTypes := #[]
  resolved := #[]
  callSites := []
  init := .initialized
  statics := none
  mirror := none

def pool0 : Array CpInfo := pool [(5, u "<init>"), (0, u "()V"), (1, .class_ 10), (1, u "java/lang/Object")] 113

def k0m0 : Method := { name := "<init>", desc := "()V", sig := { parameters := [], returnType := none }, accessFlags := 1, code := none }
/-- java/lang/Object -/
def k0 : Class := { plain "java/lang/Object" none with
  accessFlags := 33
  interfaces := #[]
  cf := some (fileOf pool0 8 #[] #[{ accessFlags := 1, nameIndex := 5, descriptorIndex := 6, attributes := #[] }] 33 0 #[] #[])
  fields := #[]
  methods := #[k0m0]
  instanceTypes := #[]
  staticTypes := #[]
  resolved := Array.replicate 124 none
  statics := none }

def pool1 : Array CpInfo := pool [(2, .class_ 4), (1, u "java/lang/Object"), (0, u "<init>"), (0, u "()V"), (0, .fieldref 8 9), (0, .class_ 10), (0, .nameAndType 11 12), (0, u "com/example/nullsight/nullsight/check/Nullness"), (0, u "NOT_NULL"), (0, u "Lcom/example/nullsight/nullsight/check/Nullness;"), (0, .fieldref 8 14), (0, .nameAndType 15 12), (0, u "UNKNOWN"), (0, .fieldref 8 17), (0, .nameAndType 18 12), (0, u "NULL"), (0, .fieldref 8 20), (0, .nameAndType 21 12), (0, u "NULLABLE"), (0, .methodref 23 24), (0, .class_ 25), (0, .nameAndType 26 27), (0, u "com/example/nullsight/nullsight/check/NullnessMergePinLaw"), (0, u "pick"), (0, u "(I)Lcom/example/nullsight/nullsight/check/Nullness;"), (0, .methodref 8 29), (0, .nameAndType 30 31), (0, u "merge"), (0, u "(Lcom/example/nullsight/nullsight/check/Nullness;)Lcom/example/nullsight/nullsight/check/Nullness;"), (3, u "law"), (0, u "(III)Z")] 4

def k1m0 : Method := { name := "<init>", desc := "()V", sig := { parameters := [], returnType := none }, accessFlags := 1, code := none }
def k1c1 : Code := { maxStack := 2, maxLocals := 2, code := method_2_code, exceptionTable := #[], attributes := #[] }
def k1m1 : Method := { name := "pick", desc := "(I)Lcom/example/nullsight/nullsight/check/Nullness;", sig := { parameters := [.int], returnType := some (.object "com/example/nullsight/nullsight/check/Nullness") }, accessFlags := 10, code := some k1c1 }
def k1c2 : Code := { maxStack := 4, maxLocals := 15, code := code, exceptionTable := #[], attributes := #[] }
def k1m2 : Method := { name := "law", desc := "(III)Z", sig := { parameters := [.int, .int, .int], returnType := some .boolean }, accessFlags := 9, code := some k1c2 }
/-- com/example/nullsight/nullsight/check/NullnessMergePinLaw -/
def k1 : Class := { plain "com/example/nullsight/nullsight/check/NullnessMergePinLaw" (some 0) with
  accessFlags := 49
  interfaces := #[]
  cf := some (fileOf pool1 23 #[] #[{ accessFlags := 1, nameIndex := 5, descriptorIndex := 6, attributes := #[] }, { accessFlags := 10, nameIndex := 26, descriptorIndex := 27, attributes := #[] }, { accessFlags := 9, nameIndex := 35, descriptorIndex := 36, attributes := #[] }] 49 2 #[] #[])
  fields := #[]
  methods := #[k1m0, k1m1, k1m2]
  instanceTypes := #[]
  staticTypes := #[]
  resolved := Array.replicate 41 none
  statics := none }

def pool2 : Array CpInfo := pool [(1, .class_ 2), (0, u "java/lang/constant/Constable"), (0, .class_ 4), (0, u "java/lang/Object")] 6

/-- java/lang/constant/Constable -/
def k2 : Class := { plain "java/lang/constant/Constable" (some 0) with
  accessFlags := 1537
  interfaces := #[]
  cf := some (fileOf pool2 1 #[] #[] 1537 3 #[] #[])
  fields := #[]
  methods := #[]
  instanceTypes := #[]
  staticTypes := #[]
  resolved := Array.replicate 11 none
  statics := none }

def pool3 : Array CpInfo := pool [(1, .class_ 2), (0, u "java/lang/Comparable"), (0, .class_ 4), (0, u "java/lang/Object")] 7

/-- java/lang/Comparable -/
def k3 : Class := { plain "java/lang/Comparable" (some 0) with
  accessFlags := 1537
  interfaces := #[]
  cf := some (fileOf pool3 1 #[] #[] 1537 3 #[] #[])
  fields := #[]
  methods := #[]
  instanceTypes := #[]
  staticTypes := #[]
  resolved := Array.replicate 12 none
  statics := none }

def pool4 : Array CpInfo := pool [(1, .class_ 2), (0, u "java/io/Serializable"), (0, .class_ 4), (0, u "java/lang/Object")] 2

/-- java/io/Serializable -/
def k4 : Class := { plain "java/io/Serializable" (some 0) with
  accessFlags := 1537
  interfaces := #[]
  cf := some (fileOf pool4 1 #[] #[] 1537 3 #[] #[])
  fields := #[]
  methods := #[]
  instanceTypes := #[]
  staticTypes := #[]
  resolved := Array.replicate 7 none
  statics := none }

def pool5 : Array CpInfo := pool [(2, .class_ 4), (1, u "java/lang/Enum"), (0, u "name"), (0, u "Ljava/lang/String;"), (2, u "ordinal"), (0, u "I"), (1, .class_ 14), (1, u "java/lang/Object"), (4, u "hash"), (86, .class_ 108), (1, u "java/lang/Enum$EnumDesc"), (2, .class_ 112), (0, u "java/lang/constant/Constable"), (0, .class_ 114), (0, u "java/lang/Comparable"), (0, .class_ 116), (0, u "java/io/Serializable")] 87

/-- java/lang/Enum -/
def k5 : Class := { plain "java/lang/Enum" (some 0) with
  accessFlags := 1057
  interfaces := #[2, 3, 4]
  cf := some (fileOf pool5 2 #[.nestMembers #[106]] #[] 1057 12 #[111, 113, 115] #[{ accessFlags := 18, nameIndex := 5, descriptorIndex := 6, attributes := #[] }, { accessFlags := 18, nameIndex := 9, descriptorIndex := 10, attributes := #[] }, { accessFlags := 2, nameIndex := 19, descriptorIndex := 10, attributes := #[] }])
  fields := #[{ name := "name", type := (.object "java/lang/String"), accessFlags := 18, slot := 0, constantValue := 0 }, { name := "ordinal", type := .int, accessFlags := 18, slot := 1, constantValue := 0 }, { name := "hash", type := .int, accessFlags := 2, slot := 2, constantValue := 0 }]
  methods := #[]
  instanceTypes := #[(.object "java/lang/String"), .int, .int]
  staticTypes := #[]
  resolved := Array.replicate 204 none
  statics := none }

def pool6 : Array CpInfo := pool [(1, .class_ 2), (0, u "com/example/nullsight/nullsight/check/Nullness"), (2, u "NOT_NULL"), (0, u "Lcom/example/nullsight/nullsight/check/Nullness;"), (0, .fieldref 1 8), (0, .nameAndType 9 6), (0, u "UNKNOWN"), (0, .fieldref 1 11), (0, .nameAndType 12 6), (0, u "NULL"), (0, .fieldref 1 14), (0, .nameAndType 15 6), (0, u "NULLABLE"), (2, u "$VALUES"), (0, u "[Lcom/example/nullsight/nullsight/check/Nullness;"), (6, .class_ 28), (1, u "java/lang/Enum"), (8, u "word"), (0, u "Ljava/lang/String;"), (27, u "merge"), (0, u "(Lcom/example/nullsight/nullsight/check/Nullness;)Lcom/example/nullsight/nullsight/check/Nullness;")] 7

def k6c0 : Code := { maxStack := 2, maxLocals := 3, code := prog_2_method_5_code, exceptionTable := #[], attributes := #[] }
def k6m0 : Method := { name := "merge", desc := "(Lcom/example/nullsight/nullsight/check/Nullness;)Lcom/example/nullsight/nullsight/check/Nullness;", sig := { parameters := [(.object "com/example/nullsight/nullsight/check/Nullness")], returnType := some (.object "com/example/nullsight/nullsight/check/Nullness") }, accessFlags := 1, code := some k6c0 }
/-- com/example/nullsight/nullsight/check/Nullness -/
def k6 : Class := { plain "com/example/nullsight/nullsight/check/Nullness" (some 5) with
  accessFlags := 16433
  interfaces := #[]
  cf := some (fileOf pool6 1 #[] #[{ accessFlags := 1, nameIndex := 66, descriptorIndex := 67, attributes := #[] }] 16433 26 #[] #[{ accessFlags := 16409, nameIndex := 5, descriptorIndex := 6, attributes := #[] }, { accessFlags := 16409, nameIndex := 9, descriptorIndex := 6, attributes := #[] }, { accessFlags := 16409, nameIndex := 12, descriptorIndex := 6, attributes := #[] }, { accessFlags := 16409, nameIndex := 15, descriptorIndex := 6, attributes := #[] }, { accessFlags := 18, nameIndex := 37, descriptorIndex := 38, attributes := #[] }, { accessFlags := 4122, nameIndex := 18, descriptorIndex := 19, attributes := #[] }])
  fields := #[{ name := "NOT_NULL", type := (.object "com/example/nullsight/nullsight/check/Nullness"), accessFlags := 16409, slot := 0, constantValue := 0 }, { name := "UNKNOWN", type := (.object "com/example/nullsight/nullsight/check/Nullness"), accessFlags := 16409, slot := 1, constantValue := 0 }, { name := "NULL", type := (.object "com/example/nullsight/nullsight/check/Nullness"), accessFlags := 16409, slot := 2, constantValue := 0 }, { name := "NULLABLE", type := (.object "com/example/nullsight/nullsight/check/Nullness"), accessFlags := 16409, slot := 3, constantValue := 0 }, { name := "word", type := (.object "java/lang/String"), accessFlags := 18, slot := 3, constantValue := 0 }, { name := "$VALUES", type := (.array (.object "com/example/nullsight/nullsight/check/Nullness")), accessFlags := 4122, slot := 4, constantValue := 0 }]
  methods := #[k6m0]
  instanceTypes := #[(.object "java/lang/String"), .int, .int, (.object "java/lang/String")]
  staticTypes := #[(.object "com/example/nullsight/nullsight/check/Nullness"), (.object "com/example/nullsight/nullsight/check/Nullness"), (.object "com/example/nullsight/nullsight/check/Nullness"), (.object "com/example/nullsight/nullsight/check/Nullness"), (.array (.object "com/example/nullsight/nullsight/check/Nullness"))]
  resolved := Array.replicate 75 none
  statics := some 0 }

def pool7 : Array CpInfo := pool [(1, u "java/lang/Cloneable"), (0, .class_ 1), (0, u "java/lang/Object"), (0, .class_ 3)] 3

/-- java/lang/Cloneable -/
def k7 : Class := { plain "java/lang/Cloneable" (some 0) with
  accessFlags := 1537
  interfaces := #[]
  cf := some (fileOf pool7 2 #[] #[] 1537 4 #[] #[])
  fields := #[]
  methods := #[]
  instanceTypes := #[]
  staticTypes := #[]
  resolved := Array.replicate 8 none
  statics := none }

/-- the primitive byte -/
def k8 : Class := { plain "byte" none with kind := .primitive 'B', accessFlags := 0x411 }
/-- [B -/
def k9 : Class := { plain "[B" (some 0) with kind := .array 8 .byte, interfaces := #[7, 4], accessFlags := 1041 }

/-- the primitive int -/
def k10 : Class := { plain "int" none with kind := .primitive 'I', accessFlags := 0x411 }
/-- [I -/
def k11 : Class := { plain "[I" (some 0) with kind := .array 10 .int, interfaces := #[7, 4], accessFlags := 1041 }

def heap : Heap := #[{ cls := 6, slots := #[.ref 1, .ref 4, .ref 3, .ref 2, .null], vm := .statics 6 },
  { cls := 6, slots := #[.null, .int 0, .int 0, .null], vm := .none },
  { cls := 6, slots := #[.null, .int 3, .int 0, .null], vm := .none },
  { cls := 6, slots := #[.null, .int 2, .int 0, .null], vm := .none },
  { cls := 6, slots := #[.null, .int 1, .int 0, .null], vm := .none }]
def classes : Array Class := #[k0, k1, k2, k3, k4, k5, k6, k7, k8, k9, k10, k11]
def interned : List (Array UInt16 × Addr) := []
def slotsUsed : Nat := 21
def theMethod : MethodId := ⟨1, 2⟩
def args0 : Array Value := #[.int 5, .int 1, .int 2]
def aboutOver (below : List Frame) : State where
  vm := { classes := classes, interned := interned.toArray }
  heap := heap
  slotsUsed := slotsUsed
  threads := #[{ frames := .invoking theMethod args0 :: below }]
def below0 : List Frame := [.native { method := ⟨0, 0⟩, args := #[] }]
def about1 : State := aboutOver below0
def p0 : Program := .bare "" "" ""
def e0 : Env := launch0.env 0 0 0
theorem w_frames : about1.frames = Frame.invoking theMethod args0 :: below0 := rfl
set_option maxRecDepth 65536 in
theorem w_args : argsFit about1.vm theMethod args0 = true := by decide +kernel
set_option maxRecDepth 65536 in
theorem w_heap : heapFits about1 = true := by decide +kernel
set_option maxRecDepth 65536 in
theorem w_runnable : about1.curStatus? = some .runnable := by decide +kernel
set_option maxRecDepth 65536 in
theorem w_alone : about1.alone = true := by decide +kernel
set_option maxRecDepth 65536 in
theorem w_named : about1.methodNamed? x = some theMethod := by decide +kernel
set_option maxRecDepth 65536 in
theorem w_hears : about1.hears theMethod below0 = true := by decide +kernel
set_option maxRecDepth 65536 in
theorem w_ripe : about1.ripe theMethod args0 below0 = true := by decide +kernel
theorem w_running : about1.status = .running := rfl
set_option maxRecDepth 65536 in
theorem w_room : about1.hasRoom e0.platform room_1 = true :=
  launch0.hasRoom_least _ room_1 (by decide +kernel) (by decide +kernel) (by decide +kernel) (by decide +kernel) (by decide +kernel) (by decide +kernel)
theorem allAtoms_all (ts : List Jvm.Cond) (a : Array Jvm.Value) (st : Jvm.State) : (allAtoms ts).before a st = ts.all (fun c => c.before a st) := by
  induction ts with
  | nil => rfl
  | cons c t ih =>
    show (Jvm.Cond.and c (allAtoms t)).before a st = _
    rw [Jvm.Cond.before_and, ih, List.all_cons]
def words1 : List Jvm.Cond := Jvm.Cond.code x code maxLocals ret :: tables_1
/-- a 'code' word, met by the world's own term for the bytes: nothing is compared byte by byte -/
theorem code_word {y : MethodName} {bytes : ByteArray} {mx : Nat} {rt : Option FieldType} {a : Array Value} {s : State} {m : MethodId} {meth : Method} {c : Code} (h1 : s.methodNamed? y = some m) (h2 : s.vm.method? m = some meth) (h3 : meth.code = some c) (h4 : c.code = bytes)
    (h5 : (c.maxLocals == mx && c.exceptionTable.isEmpty && decide (c.maxStack ≤ mostOperands) && decide (meth.sig.returnType = rt) && !meth.locks && decide (parseMethodDescriptor y.desc = some meth.sig)) = true) : (Jvm.Cond.code y bytes mx rt).before a s = true := by
  simp only [Bool.and_eq_true, beq_iff_eq, Bool.not_eq_true', decide_eq_true_eq] at h5
  obtain ⟨⟨⟨⟨⟨g1, g2⟩, g3⟩, g4⟩, g5⟩, g6⟩ := h5
  simp [Cond.before, Cond.holds, Cond.value, h1, h2, h3, h4, g1, g2, g3, g4, g5, g6]
def isCode : Jvm.Cond → Bool
  | .code _ _ _ _ => true
  | _ => false
theorem all_split {L : List Jvm.Cond} {P : Jvm.Cond → Bool} (h1 : L.all (fun c => isCode c || P c) = true) (h2 : ∀ c ∈ L.filter isCode, P c = true) : L.all P = true := by
  refine List.all_eq_true.mpr fun c hc => ?_
  have h := List.all_eq_true.mp h1 c hc
  rcases Bool.eq_false_or_eq_true (isCode c) with hi | hi
  · exact h2 c (List.mem_filter.mpr ⟨hc, hi⟩)
  · simpa [hi] using h
set_option maxRecDepth 65536 in
theorem w_c0 : (Jvm.Cond.code x code maxLocals ret).before args0 about1 = true := code_word (m := ⟨1, 2⟩) (meth := k1m2) (c := k1c2) (by decide +kernel) rfl rfl rfl (by decide +kernel)
set_option maxRecDepth 65536 in
theorem w_c1 : (Jvm.Cond.code ({ cls := "com/example/nullsight/nullsight/check/NullnessMergePinLaw", name := "pick", desc := "(I)Lcom/example/nullsight/nullsight/check/Nullness;" } : Jvm.MethodName) method_2_code (2 : Nat) (Option.some (Jvm.ClassFile.FieldType.object "com/example/nullsight/nullsight/check/Nullness"))).before args0 about1 = true := code_word (m := ⟨1, 1⟩) (meth := k1m1) (c := k1c1) (by decide +kernel) rfl rfl rfl (by decide +kernel)
set_option maxRecDepth 65536 in
theorem w_c2 : (Jvm.Cond.code ({ cls := "com/example/nullsight/nullsight/check/Nullness", name := "merge", desc := "(Lcom/example/nullsight/nullsight/check/Nullness;)Lcom/example/nullsight/nullsight/check/Nullness;" } : Jvm.MethodName) prog_2_method_5_code (3 : Nat) (Option.some (Jvm.ClassFile.FieldType.object "com/example/nullsight/nullsight/check/Nullness"))).before args0 about1 = true := code_word (m := ⟨6, 0⟩) (meth := k6m0) (c := k6c0) (by decide +kernel) rfl rfl rfl (by decide +kernel)
def codes1 : List Jvm.Cond := [Jvm.Cond.code x code maxLocals ret, Jvm.Cond.code ({ cls := "com/example/nullsight/nullsight/check/NullnessMergePinLaw", name := "pick", desc := "(I)Lcom/example/nullsight/nullsight/check/Nullness;" } : Jvm.MethodName) method_2_code (2 : Nat) (Option.some (Jvm.ClassFile.FieldType.object "com/example/nullsight/nullsight/check/Nullness")), Jvm.Cond.code ({ cls := "com/example/nullsight/nullsight/check/Nullness", name := "merge", desc := "(Lcom/example/nullsight/nullsight/check/Nullness;)Lcom/example/nullsight/nullsight/check/Nullness;" } : Jvm.MethodName) prog_2_method_5_code (3 : Nat) (Option.some (Jvm.ClassFile.FieldType.object "com/example/nullsight/nullsight/check/Nullness"))]
set_option maxRecDepth 65536 in
theorem codes_eq : words1.filter isCode = codes1 := rfl
theorem w_codes : ∀ c ∈ words1.filter isCode, c.before args0 about1 = true := by
  rw [codes_eq]
  intro c hc
  simp only [codes1, List.mem_cons, List.not_mem_nil, or_false] at hc
  rcases hc with rfl | rfl | rfl
  · exact w_c0
  · exact w_c1
  · exact w_c2
set_option maxRecDepth 65536 in
theorem w_t1 : words1.all (fun c => isCode c || c.before args0 about1) = true := by decide +kernel
theorem w_tables : (allAtoms (Jvm.Cond.code x code maxLocals ret :: tables_1)).before args0 about1 = true := by
  rw [allAtoms_all]
  show words1.all (fun c => c.before args0 about1) = true
  refine all_split ?_ w_codes
  rw [w_t1]
set_option maxRecDepth 65536 in
theorem w_case : (Jvm.Cond.and given_1 narrow_1).before args0 about1 = true := by decide +kernel
theorem w_applies : (headSpec (Jvm.Cond.code x code maxLocals ret :: tables_1) room_1).applies x e0.platform about1 = true :=
  (Spec.applies_iff w_frames).mpr ⟨w_running, w_runnable, w_alone, w_named, w_hears, w_ripe, w_room, w_tables⟩
theorem atStart : AtStart classFile x code maxLocals ret World_1 tables_1 room_1 Calls_1 rest_1 Pre_1 launch0 p0 e0 about1 theMethod args0 below0 :=
  ⟨lists_1, trivial, launch0.admits_env _ _ _, launch0.least_env, fairChoices_fair.cas, fairChoices_fair.clock, w_frames, w_args, w_heap, w_applies, trivial, trivial, w_case⟩
end start1
theorem witness_1 : WitnessClaimed_1 := ⟨start1.p0, start1.e0, start1.about1, start1.theMethod, start1.args0, start1.below0, start1.atStart⟩
end Jvm.Pilot.@@N@@
