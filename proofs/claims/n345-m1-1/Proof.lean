import JvmDerived
import JvmDerived.Pilot.@@N@@Statement
import JvmDerived.Pilot.@@N@@Code
set_option linter.unusedVariables false
set_option linter.unusedSimpArgs false
@@BLOCK:NumsL.lean.txt@@
namespace Jvm.Pilot.@@N@@
open Jvm Jvm.ClassFile Sem Op Lib Jvm.Free Jvm.Stand Jvm.LawKit Jvm.RoadKit Bundle Jvm.Pilot.@@N@@.Jvm.D
section Own
variable {p : Program} {l : Launch} {e : Env} {R : Room} {s : State} {m : MethodId} {args : Array Value} {below : List Frame} {meth : Method} {c : Code} {T : State} {locs : List Loc} {cells slots : Nat} {Z : State} {a0 : Array Value} {h : Heap}
/-- from here the walk comes to an end that P holds of -/
def own_G (p : Program) (e : Env) (below : List Frame) (P : State → Outcome → Prop) (T : State) (g : JFrame) : Prop := ∃ t o, Steps p.tables e below (T.setTop g) t ∧ P t o
def own_P (below : List Frame) (s : State) (rm : Room) (Q : Option Value → Heap → List Loc → Prop) (t : State) (o : Outcome) : Prop := t.status = .running ∧ Ended t below o ∧ ∃ v L, o = .returned v ∧ Q v t.heap L ∧ FrameEnd s o t L rm.cells rm.slots
/-- a body's contract: over these arguments and this heap it returns, and Q holds of what it returns, the heap and the places written -/
def own_M (l : Launch) (Z : State) (y : MethodName) (code : ByteArray) (maxL : Nat) (ret : Option FieldType) (rm : Room) (as : Array Value) (h : Heap) (Q : Option Value → Heap → List Loc → Prop) : Prop :=
  ∀ ws : List Jvm.Cond, MetFree l y (head1 (Jvm.Cond.code y code maxL ret :: ws) rm) (fun a U => a = as ∧ Z.Warmed39 U.vm ∧ U.heap = h) (fun _ _ _ _ _ => True) (fun _ U o U' => ∃ v L, o = .returned v ∧ Q v U'.heap L ∧ FrameEnd U o U' L rm.cells rm.slots)
theorem own_go {P : State → Outcome → Prop} {T' : State} {g g' : JFrame} (st : ∀ t, Steps p.tables e below (T'.setTop g') t → Steps p.tables e below (T.setTop g) t) (k : own_G p e below P T' g') : own_G p e below P T g := by
  obtain ⟨t, o, h1, h2⟩ := k
  exact ⟨t, o, st t h1, h2⟩
theorem own_body {y : MethodName} {code : ByteArray} {maxL : Nat} {ret : Option FieldType} {rm : Room} {as : Array Value} {Q : Option Value → Heap → List Loc → Prop} (hn : plainFor y = true)
    (body : ∀ (p : Program) (e : Env) (s : State) (m : MethodId) (below : List Frame) (meth : Method) (c : Code) (T : State), p.tables.exec = Jvm.exec → c.code = code → c.maxLocals = maxL → meth.locks = false → s.vm.findClass y.cls = some m.cls → meth.sig.returnType = ret → meth.name = y.name → Z.Warmed39 s.vm → Stand p l e rm s m as below meth c T [] 0 0 → T.heap = h → own_G p e below (own_P below s rm Q) T (entryFrame m as maxL)) :
    own_M l Z y code maxL ret rm as h Q := by
  intro ws
  refine MetFree.of_bodySF hn hisR ?_
  intro p e s m args below meth c s₁ Bd hml0 hP hK
  obtain ⟨rfl, hZ, hh⟩ := hP
  obtain ⟨t, o, h1, h2, h3, h4⟩ := body p e s m below meth c s₁ Bd.exec Bd.bytes hml0 Bd.notSynchronized (findClass_of_methodNamed Bd.named) Bd.returns (name_of_methodNamed Bd.named Bd.method).1 hZ (Stand.of_body Bd) (by rw [← hh, Bd.state]; rfl)
  exact ⟨t, o, h1, h2, h3, h4⟩
theorem own_retI {rm : Room} {Q : Option Value → Heap → List Loc → Prop} (X : Stand p l e R s m args below meth c T locs cells slots) (hx : p.tables.exec = Jvm.exec) (hlk : meth.locks = false) (hret : meth.sig.returnType = some .int) {pc : Nat} {Ls : Array Slot} {z : Int32} {rest : List Value} (hd : decode c.code pc = .ok (.ireturn, 1)) (hc : cells ≤ rm.cells) (hs : slots ≤ rm.slots) (hQ : Q (some (.int z)) T.heap locs) :
    own_G p e below (own_P below s rm Q) T (mkF m pc Ls (.int z :: rest)) := by
  obtain ⟨fs, hr, hrun, hended, hW, hsame⟩ := X.leave (v := some (.int z)) (fun h => by rw [hret] at h; cases h) hlk
  exact ⟨_, _, retOut X hx hret rfl (Or.inl ⟨rfl, Or.inl rfl, _, rfl⟩) hd hr, hrun, hended, _, _, rfl, hQ, ⟨_, rfl⟩, hW, hsame.mono hc hs⟩
theorem own_retN {rm : Room} {Q : Option Value → Heap → List Loc → Prop} (X : Stand p l e R s m args below meth c T locs cells slots) (hx : p.tables.exec = Jvm.exec) (hlk : meth.locks = false) {t : FieldType} (hret : meth.sig.returnType = some t) (ht : t = .boolean ∨ t = .byte ∨ t = .char ∨ t = .short) {pc : Nat} {Ls : Array Slot} {z : Int32} {rest : List Value} (hd : decode c.code pc = .ok (.ireturn, 1)) (hc : cells ≤ rm.cells) (hs : slots ≤ rm.slots) (hQ : Q (some (.int (nar t z))) T.heap locs) :
    own_G p e below (own_P below s rm Q) T (mkF m pc Ls (.int z :: rest)) := by
  obtain ⟨fs, hr, hrun, hended, hW, hsame⟩ := X.leave (v := some (.int (nar t z))) (fun h => by rw [hret] at h; cases h) hlk
  exact ⟨_, _, retN X hx hret ht hd hr, hrun, hended, _, _, rfl, hQ, ⟨_, rfl⟩, hW, hsame.mono hc hs⟩
theorem own_narrow {t : FieldType} {w : Value} (hw : w.isRef = true) : narrow t w = w := by
  rcases ref_cases hw with rfl | ⟨a, rfl⟩ <;> cases t <;> rfl
theorem own_retA {rm : Room} {Q : Option Value → Heap → List Loc → Prop} (X : Stand p l e R s m args below meth c T locs cells slots) (hx : p.tables.exec = Jvm.exec) (hlk : meth.locks = false) {t : FieldType} (hret : meth.sig.returnType = some t) (ht : t.isReference = true) {pc : Nat} {Ls : Array Slot} {w : Value} {rest : List Value} (hw : w.isRef = true) (hd : decode c.code pc = .ok (.areturn, 1)) (hc : cells ≤ rm.cells) (hs : slots ≤ rm.slots) (hQ : Q (some w) T.heap locs) :
    own_G p e below (own_P below s rm Q) T (mkF m pc Ls (w :: rest)) := by
  obtain ⟨fs, hr, hrun, hended, hW, hsame⟩ := X.leave (v := some w) (fun h => by rw [hret] at h; cases h) hlk
  exact ⟨_, _, retOut X hx hret (own_narrow hw) (Or.inr (Or.inr (Or.inr (Or.inr ⟨rfl, ht, hw⟩)))) hd hr, hrun, hended, _, _, rfl, hQ, ⟨_, rfl⟩, hW, hsame.mono hc hs⟩
theorem own_ret0 {rm : Room} {Q : Option Value → Heap → List Loc → Prop} (X : Stand p l e R s m args below meth c T locs cells slots) (hx : p.tables.exec = Jvm.exec) (hlk : meth.locks = false) (hret : meth.sig.returnType = none) {pc : Nat} {Ls : Array Slot} (hd : decode c.code pc = .ok (.return_, 1)) (hc : cells ≤ rm.cells) (hs : slots ≤ rm.slots) (hQ : Q none T.heap locs) :
    own_G p e below (own_P below s rm Q) T (mkF m pc Ls []) := by
  obtain ⟨fs, hr, hrun, hended, hW, hsame⟩ := X.leave (v := none) (fun _ => rfl) hlk
  exact ⟨_, _, X.returnOut hx hret hd hr, hrun, hended, _, _, rfl, hQ, ⟨_, rfl⟩, hW, hsame.mono hc hs⟩
theorem own_callS (X : Stand p l e R s m args below meth c T locs cells slots) (hx : p.tables.exec = Jvm.exec) (hZ : Z.Warmed39 s.vm) {own : String} {index : Nat} {y : MethodName} {bytes : ByteArray} {maxL : Nat} {ret : Option FieldType} (hown : s.vm.findClass own = some m.cls)
    (w1 : (Jvm.Cond.methodLink own index y).before a0 Z = true) (w2 : (Jvm.Cond.static y).before a0 Z = true) (w3 : (Jvm.Cond.initialized y.cls).before a0 Z = true) (w4 : (Jvm.Cond.code y bytes maxL ret).before a0 Z = true) (hy : y.cls ≠ "java/lang/invoke/MethodHandle" ∧ y.cls ≠ "java/lang/invoke/VarHandle")
    {rm : Room} {argsL rest : List Value} {Q : Option Value → Heap → List Loc → Prop} (hM : own_M l Z y bytes maxL ret rm argsL.toArray h Q) (eT : T.heap = h) {g : JFrame} (hg : g.method = m) (hsize : g.locals.size = c.maxLocals) {ps : List FieldType} {r : Option FieldType} (hpd : parseMethodDescriptor y.desc = some ⟨ps, r⟩) (hpl : argsL.length = ps.length)
    (hstack : g.stack = argsL.reverse ++ rest) {W : Nat} (hW : 2 * g.monitorRoom + (rest.map fun v => v.category).sum ≤ W) (hdg : decode c.code g.pc = .ok (.invokestatic index, 3)) (hf : rm.frames + 1 ≤ R.frames) (hl : W + (maxL + 11) + rm.locals ≤ R.locals) (hc : cells + rm.cells ≤ R.cells) (hs : slots + rm.slots ≤ R.slots) :
    ∃ (T' : State) (L : List Loc) (v : Option Value), Stand p l e R s m args below meth c T' (locs ++ L) (cells + rm.cells) (slots + rm.slots) ∧ Q v T'.heap L ∧ ∀ t, Steps p.tables e below (T'.setTop { g with pc := g.pc + 3, stack := v.toList ++ rest }) t → Steps p.tables e below (T.setTop g) t := by
  obtain ⟨v, vm₁, ⟨T', L', k', n'⟩, -, X', ⟨L, hQ, e1, e2, e3⟩, st⟩ := Jvm.LawKit.callS X hx (y := y) hown (mvT hZ w1) (mvT hZ w2) (mvT hZ w3) (mvT hZ w4) hy (backOf (W := W) (hM []) hZ w4 w3 hf hl) hg hsize (argsL := argsL) (rest := rest) (lenOf hpd hpl) hstack hW hdg (fun _ _ => ⟨rfl, eT, hc, hs⟩)
  dsimp only [Pt.U, Pt.locs, Pt.cells, Pt.slots] at X' e1 e2 e3 st hQ
  subst e1 e2 e3
  exact ⟨T', L, v, X', hQ, st⟩
theorem own_callV (X : Stand p l e R s m args below meth c T locs cells slots) (hx : p.tables.exec = Jvm.exec) (hZ : Z.Warmed39 s.vm) {own C : String} {index : Nat} {y z : MethodName} {bytes : ByteArray} {maxL : Nat} {ret : Option FieldType} (hown : s.vm.findClass own = some m.cls)
    (w1 : (Jvm.Cond.methodLink own index y).before a0 Z = true) (w2 : (Jvm.Cond.declares y).before a0 Z = true) (w3 : (Jvm.Cond.selects y.cls y z).before a0 Z = true) (w3' : (Jvm.Cond.selects C y z).before a0 Z = true) (w4 : (Jvm.Cond.instanceMethod z).before a0 Z = true) (w5 : (Jvm.Cond.code z bytes maxL ret).before a0 Z = true) (w6 : (Jvm.Cond.initialized z.cls).before a0 Z = true) (hnf : NotFace s y)
    (hy : y.cls ≠ "java/lang/invoke/MethodHandle" ∧ y.cls ≠ "java/lang/invoke/VarHandle")
    {rm : Room} {a : Addr} {argsL rest : List Value} {Q : Option Value → Heap → List Loc → Prop} (hM : own_M l Z z bytes maxL ret rm (.ref a :: argsL).toArray h Q) (eT : T.heap = h) (E : Exa Z h a C) {g : JFrame} (hg : g.method = m) (hsize : g.locals.size = c.maxLocals) {ps : List FieldType} {r : Option FieldType} (hpd : parseMethodDescriptor y.desc = some ⟨ps, r⟩) (hpl : argsL.length = ps.length)
    (hstack : g.stack = argsL.reverse ++ .ref a :: rest) {W : Nat} (hW : 2 * g.monitorRoom + (rest.map fun v => v.category).sum ≤ W) (hdg : decode c.code g.pc = .ok (.invokevirtual index, 3)) (hf : rm.frames + 1 ≤ R.frames) (hl : W + (maxL + 11) + rm.locals ≤ R.locals) (hc : cells + rm.cells ≤ R.cells) (hs : slots + rm.slots ≤ R.slots) :
    ∃ (T' : State) (L : List Loc) (v : Option Value), Stand p l e R s m args below meth c T' (locs ++ L) (cells + rm.cells) (slots + rm.slots) ∧ Q v T'.heap L ∧ ∀ t, Steps p.tables e below (T'.setTop { g with pc := g.pc + 3, stack := v.toList ++ rest }) t → Steps p.tables e below (T.setTop g) t := by
  obtain ⟨cq, kq, qa, qb, qc⟩ := isOf hZ eT E
  obtain ⟨v, vm₁, ⟨T', L', k', n'⟩, -, X', ⟨L, hQ, e1, e2, e3⟩, st⟩ := X.virtualBack hx (y := y) (z := z) hown (mvT hZ w1) (mvT hZ w2) hnf (mvT hZ w3') (mvT hZ w4) hy (backOf (W := W) (hM []) hZ w5 w6 hf hl) qa qc hg hsize (Steps.refl _) (argsL := argsL) (rest := rest) (lenOf hpd hpl) hstack hW hdg (fun _ _ => ⟨rfl, eT, hc, hs⟩)
  dsimp only [Pt.U, Pt.locs, Pt.cells, Pt.slots] at X' e1 e2 e3 st hQ
  subst e1 e2 e3
  exact ⟨T', L, v, X', hQ, fun t k => st.trans k⟩
theorem own_callU (X : Stand p l e R s m args below meth c T locs cells slots) (hx : p.tables.exec = Jvm.exec) (hZ : Z.Warmed39 s.vm) {own C owner : String} {index : Nat} {y z : MethodName} {bytes : ByteArray} {maxL : Nat} {ret : Option FieldType} (hown : s.vm.findClass own = some m.cls)
    (w1 : (Jvm.Cond.methodLink own index y).before a0 Z = true) (w2 : (Jvm.Cond.sameMethod y.cls owner y.name y.desc).before a0 Z = true) (w2' : (Jvm.Cond.declares ⟨owner, y.name, y.desc⟩).before a0 Z = true) (w3 : (Jvm.Cond.selects C y z).before a0 Z = true) (w4 : (Jvm.Cond.instanceMethod z).before a0 Z = true) (w5 : (Jvm.Cond.code z bytes maxL ret).before a0 Z = true) (w6 : (Jvm.Cond.initialized z.cls).before a0 Z = true)
    (hy : owner ≠ "java/lang/invoke/MethodHandle" ∧ owner ≠ "java/lang/invoke/VarHandle")
    {rm : Room} {a : Addr} {argsL rest : List Value} {Q : Option Value → Heap → List Loc → Prop} (hM : own_M l Z z bytes maxL ret rm (.ref a :: argsL).toArray h Q) (eT : T.heap = h) (E : Exa Z h a C) {g : JFrame} (hg : g.method = m) (hsize : g.locals.size = c.maxLocals) {ps : List FieldType} {r : Option FieldType} (hpd : parseMethodDescriptor y.desc = some ⟨ps, r⟩) (hpl : argsL.length = ps.length)
    (hstack : g.stack = argsL.reverse ++ .ref a :: rest) {W : Nat} (hW : 2 * g.monitorRoom + (rest.map fun v => v.category).sum ≤ W) (hdg : decode c.code g.pc = .ok (.invokevirtual index, 3)) (hf : rm.frames + 1 ≤ R.frames) (hl : W + (maxL + 11) + rm.locals ≤ R.locals) (hc : cells + rm.cells ≤ R.cells) (hs : slots + rm.slots ≤ R.slots) :
    ∃ (T' : State) (L : List Loc) (v : Option Value), Stand p l e R s m args below meth c T' (locs ++ L) (cells + rm.cells) (slots + rm.slots) ∧ Q v T'.heap L ∧ ∀ t, Steps p.tables e below (T'.setTop { g with pc := g.pc + 3, stack := v.toList ++ rest }) t → Steps p.tables e below (T.setTop g) t := by
  obtain ⟨cq, kq, qa, qb, qc⟩ := isOf hZ eT E
  obtain ⟨v, vm₁, ⟨T', L', k', n'⟩, -, X', ⟨L, hQ, e1, e2, e3⟩, st⟩ := X.virtualBackUp hx (x := y) (y := z) hown (mvT hZ w1) (mvT hZ w2) (mvT hZ w2') hy (mvT hZ w3) (mvT hZ w4) (backOf (W := W) (hM []) hZ w5 w6 hf hl) qa qc hg hsize (Steps.refl _) (argsL := argsL) (rest := rest) (lenOf hpd hpl) hstack hW hdg (fun _ _ => ⟨rfl, eT, hc, hs⟩)
  dsimp only [Pt.U, Pt.locs, Pt.cells, Pt.slots] at X' e1 e2 e3 st hQ
  subst e1 e2 e3
  exact ⟨T', L, v, X', hQ, fun t k => st.trans k⟩
theorem own_neL {i K : Int32} {k : Int} (h : ¬ i = K) (hk : K.toInt = k) : k ≠ i.toInt := fun q => h (Int32.toInt_inj.mp (by rw [hk, q]))
abbrev own_cell (cA : ClassId) (vs : Array Value) : Cell := { cls := cA, slots := vs, vm := .none }
theorem own_in {cl : Cell} {j : Int32} {n : Nat} (hs : cl.slots.size = n) (hj : ¬ (j < 0 ∨ n ≤ j.toNatClampNeg)) : ¬ (j < 0 ∨ cl.slots.size ≤ j.toNatClampNeg) := by rw [hs]; exact hj
theorem own_cellAt {cl : Cell} {ty : FieldType} {a : Addr} (q : T.heap = h) (A : Arr Z h a cl ty) : T.heap[a]? = some cl := q ▸ A.1
theorem own_cat {v : Value} (q : v.isRef = true) : v.category = 1 := by rcases ref_cases q with rfl | ⟨a, rfl⟩ <;> rfl
theorem own_ext_refl (h : Heap) : Ext h h := ⟨Nat.le_refl _, fun _ _ q => q⟩
theorem own_ext_trans {h0 h h' : Heap} (E : Ext h0 h) (E' : Ext h h') : Ext h0 h' := ⟨Nat.le_trans E.1 E'.1, fun a c q => E'.2 a c (E.2 a c q)⟩
theorem own_ext_eq {h0 h h' : Heap} (E : Ext h0 h) (q : h' = h) : Ext h0 h' := q ▸ E
theorem own_acVF {v w : Value} (q : v = w) : Jvm.Free.XT.acmp .ne v w = false := by subst q; simp [Jvm.Free.XT.acmp]
theorem own_ext_wr {h0 h h' : Heap} {a : Addr} {sl : Nat} {v : Value} (E : Ext h0 h) (W : Wr h h' a sl v) (q : h0.size ≤ a) : Ext h0 h' := by
  refine ⟨by rw [W.size]; exact E.1, fun x cx hx => ?_⟩
  obtain ⟨c', e1, -, -, -, e5, -⟩ := wr_at W (E.2 x cx hx)
  rw [← e5 (Nat.ne_of_lt (Nat.lt_of_lt_of_le (Array.getElem?_eq_some_iff.mp hx).1 q))]
  exact e1
theorem own_fld {t : Term} {a : Addr} {C n d : String} {k : Int32} (ev : t.eval args Z none [] Z = some (.ref a)) (w : (Jvm.Cond.eq (.field t C n d) (.int k)).value args Z none Z [] = some true) : Fld Z Z.heap a C n d (.int k) := by
  obtain ⟨x, y, e1, e2, k1, k2⟩ := cmp_v (Or.inl w)
  obtain rfl : y = .int k := (Option.some.inj e2).symm
  obtain ⟨z, rfl⟩ := k2
  have hz := gotT (Jvm.Cond.eq_ints e1 e2) w
  rw [fld_at ev] at e1
  rw [hz] at e1
  exact Fld.start e1
theorem own_len {t : Term} {a : Addr} {cl : Cell} {ty : FieldType} {k : Int32} (ev : t.eval args Z none [] Z = some (.ref a)) (A : Arr Z Z.heap a cl ty) (w : (Jvm.Cond.eq (.length t) (.int k)).value args Z none Z [] = some true) : cl.slots.size = k.toInt.toNat := by
  obtain ⟨x, y, e1, e2, k1, k2⟩ := cmp_v (Or.inl w)
  obtain rfl : y = .int k := (Option.some.inj e2).symm
  obtain ⟨z, rfl⟩ := k2
  have hz := gotT (Jvm.Cond.eq_ints e1 e2) w
  have hA : Z.arrayAt? a = some cl := Arr.fin (Vm.Alike.refl _) A
  by_cases hl : cl.slots.size < 2 ^ 31
  · rw [len_f ev hA hl] at e1
    have h1 : cl.slots.size.toInt32 = z := Value.int.inj (Option.some.inj e1)
    rw [← hz, ← h1, len_toInt hl]
    rfl
  · simp [Term.eval, ev, hA, hl] at e1
theorem own_elemI {t : Term} {a : Addr} {cl : Cell} {ty : FieldType} {j k : Int32} (ev : t.eval args Z none [] Z = some (.ref a)) (A : Arr Z Z.heap a cl ty) (w : (Jvm.Cond.eq (.elem t (.int j)) (.int k)).value args Z none Z [] = some true) : cl.slots[j.toNatClampNeg]? = some (.int k) := by
  obtain ⟨x, y, e1, e2, k1, k2⟩ := cmp_v (Or.inl w)
  obtain rfl : y = .int k := (Option.some.inj e2).symm
  obtain ⟨z, rfl⟩ := k2
  have hz := gotT (Jvm.Cond.eq_ints e1 e2) w
  rw [← hz]
  exact (elem_in e1 ev (Term.int_eval j) A.1).2
theorem own_elemR {t u : Term} {a b : Addr} {cl : Cell} {ty : FieldType} {j : Int32} (ev : t.eval args Z none [] Z = some (.ref a)) (A : Arr Z Z.heap a cl ty) (ev' : u.eval args Z none [] Z = some (.ref b)) (w : (Jvm.Cond.eq (.elem t (.int j)) u).value args Z none Z [] = some true) : cl.slots[j.toNatClampNeg]? = some (.ref b) := by
  obtain ⟨x, y, e1, e2, k1, k2⟩ := cmp_v (Or.inl w)
  obtain rfl : y = .ref b := (Option.some.inj (ev'.symm.trans e2)).symm
  have hz := gotT (eq_R e1 e2 k2.2 rfl) w
  rw [← hz]
  exact (elem_in e1 ev (Term.int_eval j) A.1).2
theorem own_neV {a b : Int32} (h : a ≠ b) : (Value.int a) ≠ Value.int b := fun q => h (Value.int.inj q)
theorem own_acT {a b : Addr} (h : a = b) : Jvm.Free.XT.acmp .eq (.ref a) (.ref b) = true := by subst h; simp [Jvm.Free.XT.acmp]
theorem own_acF {a b : Addr} (h : a ≠ b) : Jvm.Free.XT.acmp .eq (.ref a) (.ref b) = false := by simp [Jvm.Free.XT.acmp, h]
theorem own_acnT {a b : Addr} (h : a ≠ b) : Jvm.Free.XT.acmp .ne (.ref a) (.ref b) = true := by simp [Jvm.Free.XT.acmp, h]
theorem own_acnF {a b : Addr} (h : a = b) : Jvm.Free.XT.acmp .ne (.ref a) (.ref b) = false := by subst h; simp [Jvm.Free.XT.acmp]
theorem own_mask (x : Int32) : 0 ≤ (x &&& 2147483647).toInt := by
  have := Jvm.Kit.i32_mask x 2147483647 (k := 31) (by decide) (by decide)
  omega
theorem own_rem (y n : Int32) (h0 : 0 ≤ y.toInt) (hn : 0 < n.toInt) : 0 ≤ (y % n).toInt ∧ (y % n).toInt < n.toInt := by
  rw [Int32.toInt_mod]
  exact ⟨Int.tmod_nonneg _ h0, by
    have := Int.tmod_lt_of_pos y.toInt hn
    exact this⟩
end Own
end Jvm.Pilot.@@N@@
namespace Jvm.Pilot.@@N@@
open Jvm Jvm.ClassFile Sem Op Lib Jvm.Free Jvm.Stand Jvm.LawKit Jvm.RoadKit Bundle Jvm.Pilot.@@N@@.Jvm.D
def own_B (Z : State) (h : Heap) (a_GENERAL_DIGIT_WEIGHTS : Addr) (cl_GENERAL_DIGIT_WEIGHTS : Cell) : Prop := Sta Z h "com/example/compensa/compensa/CheckDigits" "GENERAL_DIGIT_WEIGHTS" "[I" (.ref a_GENERAL_DIGIT_WEIGHTS) ∧ Arr Z h a_GENERAL_DIGIT_WEIGHTS cl_GENERAL_DIGIT_WEIGHTS .int ∧ cl_GENERAL_DIGIT_WEIGHTS.slots.size = 44 ∧ cl_GENERAL_DIGIT_WEIGHTS.slots[(0 : Int32).toNatClampNeg]? = some (.int (4 : Int32)) ∧ cl_GENERAL_DIGIT_WEIGHTS.slots[(1 : Int32).toNatClampNeg]? = some (.int (3 : Int32)) ∧ cl_GENERAL_DIGIT_WEIGHTS.slots[(2 : Int32).toNatClampNeg]? = some (.int (2 : Int32)) ∧ cl_GENERAL_DIGIT_WEIGHTS.slots[(3 : Int32).toNatClampNeg]? = some (.int (9 : Int32)) ∧ cl_GENERAL_DIGIT_WEIGHTS.slots[(4 : Int32).toNatClampNeg]? = some (.int (0 : Int32)) ∧ cl_GENERAL_DIGIT_WEIGHTS.slots[(5 : Int32).toNatClampNeg]? = some (.int (8 : Int32)) ∧ cl_GENERAL_DIGIT_WEIGHTS.slots[(6 : Int32).toNatClampNeg]? = some (.int (7 : Int32)) ∧ cl_GENERAL_DIGIT_WEIGHTS.slots[(7 : Int32).toNatClampNeg]? = some (.int (6 : Int32)) ∧ cl_GENERAL_DIGIT_WEIGHTS.slots[(8 : Int32).toNatClampNeg]? = some (.int (5 : Int32)) ∧ cl_GENERAL_DIGIT_WEIGHTS.slots[(9 : Int32).toNatClampNeg]? = some (.int (4 : Int32)) ∧ cl_GENERAL_DIGIT_WEIGHTS.slots[(10 : Int32).toNatClampNeg]? = some (.int (3 : Int32)) ∧ cl_GENERAL_DIGIT_WEIGHTS.slots[(11 : Int32).toNatClampNeg]? = some (.int (2 : Int32)) ∧ cl_GENERAL_DIGIT_WEIGHTS.slots[(12 : Int32).toNatClampNeg]? = some (.int (9 : Int32)) ∧ cl_GENERAL_DIGIT_WEIGHTS.slots[(13 : Int32).toNatClampNeg]? = some (.int (8 : Int32)) ∧ cl_GENERAL_DIGIT_WEIGHTS.slots[(14 : Int32).toNatClampNeg]? = some (.int (7 : Int32)) ∧ cl_GENERAL_DIGIT_WEIGHTS.slots[(15 : Int32).toNatClampNeg]? = some (.int (6 : Int32)) ∧ cl_GENERAL_DIGIT_WEIGHTS.slots[(16 : Int32).toNatClampNeg]? = some (.int (5 : Int32)) ∧ cl_GENERAL_DIGIT_WEIGHTS.slots[(17 : Int32).toNatClampNeg]? = some (.int (4 : Int32)) ∧ cl_GENERAL_DIGIT_WEIGHTS.slots[(18 : Int32).toNatClampNeg]? = some (.int (3 : Int32)) ∧ cl_GENERAL_DIGIT_WEIGHTS.slots[(19 : Int32).toNatClampNeg]? = some (.int (2 : Int32)) ∧ cl_GENERAL_DIGIT_WEIGHTS.slots[(20 : Int32).toNatClampNeg]? = some (.int (9 : Int32)) ∧ cl_GENERAL_DIGIT_WEIGHTS.slots[(21 : Int32).toNatClampNeg]? = some (.int (8 : Int32)) ∧ cl_GENERAL_DIGIT_WEIGHTS.slots[(22 : Int32).toNatClampNeg]? = some (.int (7 : Int32)) ∧ cl_GENERAL_DIGIT_WEIGHTS.slots[(23 : Int32).toNatClampNeg]? = some (.int (6 : Int32)) ∧ cl_GENERAL_DIGIT_WEIGHTS.slots[(24 : Int32).toNatClampNeg]? = some (.int (5 : Int32)) ∧ cl_GENERAL_DIGIT_WEIGHTS.slots[(25 : Int32).toNatClampNeg]? = some (.int (4 : Int32)) ∧ cl_GENERAL_DIGIT_WEIGHTS.slots[(26 : Int32).toNatClampNeg]? = some (.int (3 : Int32)) ∧ cl_GENERAL_DIGIT_WEIGHTS.slots[(27 : Int32).toNatClampNeg]? = some (.int (2 : Int32)) ∧ cl_GENERAL_DIGIT_WEIGHTS.slots[(28 : Int32).toNatClampNeg]? = some (.int (9 : Int32)) ∧ cl_GENERAL_DIGIT_WEIGHTS.slots[(29 : Int32).toNatClampNeg]? = some (.int (8 : Int32)) ∧ cl_GENERAL_DIGIT_WEIGHTS.slots[(30 : Int32).toNatClampNeg]? = some (.int (7 : Int32)) ∧ cl_GENERAL_DIGIT_WEIGHTS.slots[(31 : Int32).toNatClampNeg]? = some (.int (6 : Int32)) ∧ cl_GENERAL_DIGIT_WEIGHTS.slots[(32 : Int32).toNatClampNeg]? = some (.int (5 : Int32)) ∧ cl_GENERAL_DIGIT_WEIGHTS.slots[(33 : Int32).toNatClampNeg]? = some (.int (4 : Int32)) ∧ cl_GENERAL_DIGIT_WEIGHTS.slots[(34 : Int32).toNatClampNeg]? = some (.int (3 : Int32)) ∧ cl_GENERAL_DIGIT_WEIGHTS.slots[(35 : Int32).toNatClampNeg]? = some (.int (2 : Int32)) ∧ cl_GENERAL_DIGIT_WEIGHTS.slots[(36 : Int32).toNatClampNeg]? = some (.int (9 : Int32)) ∧ cl_GENERAL_DIGIT_WEIGHTS.slots[(37 : Int32).toNatClampNeg]? = some (.int (8 : Int32)) ∧ cl_GENERAL_DIGIT_WEIGHTS.slots[(38 : Int32).toNatClampNeg]? = some (.int (7 : Int32)) ∧ cl_GENERAL_DIGIT_WEIGHTS.slots[(39 : Int32).toNatClampNeg]? = some (.int (6 : Int32)) ∧ cl_GENERAL_DIGIT_WEIGHTS.slots[(40 : Int32).toNatClampNeg]? = some (.int (5 : Int32)) ∧ cl_GENERAL_DIGIT_WEIGHTS.slots[(41 : Int32).toNatClampNeg]? = some (.int (4 : Int32)) ∧ cl_GENERAL_DIGIT_WEIGHTS.slots[(42 : Int32).toNatClampNeg]? = some (.int (3 : Int32)) ∧ cl_GENERAL_DIGIT_WEIGHTS.slots[(43 : Int32).toNatClampNeg]? = some (.int (2 : Int32))
theorem own_B_ext {Z : State} {h h' : Heap} {a_GENERAL_DIGIT_WEIGHTS : Addr} {cl_GENERAL_DIGIT_WEIGHTS : Cell} (E : Ext h h') (B : own_B Z h a_GENERAL_DIGIT_WEIGHTS cl_GENERAL_DIGIT_WEIGHTS) : own_B Z h' a_GENERAL_DIGIT_WEIGHTS cl_GENERAL_DIGIT_WEIGHTS := by
  obtain ⟨S_GENERAL_DIGIT_WEIGHTS, A_GENERAL_DIGIT_WEIGHTS, Z_GENERAL_DIGIT_WEIGHTS, V_GENERAL_DIGIT_WEIGHTS_0, V_GENERAL_DIGIT_WEIGHTS_1, V_GENERAL_DIGIT_WEIGHTS_2, V_GENERAL_DIGIT_WEIGHTS_3, V_GENERAL_DIGIT_WEIGHTS_4, V_GENERAL_DIGIT_WEIGHTS_5, V_GENERAL_DIGIT_WEIGHTS_6, V_GENERAL_DIGIT_WEIGHTS_7, V_GENERAL_DIGIT_WEIGHTS_8, V_GENERAL_DIGIT_WEIGHTS_9, V_GENERAL_DIGIT_WEIGHTS_10, V_GENERAL_DIGIT_WEIGHTS_11, V_GENERAL_DIGIT_WEIGHTS_12, V_GENERAL_DIGIT_WEIGHTS_13, V_GENERAL_DIGIT_WEIGHTS_14, V_GENERAL_DIGIT_WEIGHTS_15, V_GENERAL_DIGIT_WEIGHTS_16, V_GENERAL_DIGIT_WEIGHTS_17, V_GENERAL_DIGIT_WEIGHTS_18, V_GENERAL_DIGIT_WEIGHTS_19, V_GENERAL_DIGIT_WEIGHTS_20, V_GENERAL_DIGIT_WEIGHTS_21, V_GENERAL_DIGIT_WEIGHTS_22, V_GENERAL_DIGIT_WEIGHTS_23, V_GENERAL_DIGIT_WEIGHTS_24, V_GENERAL_DIGIT_WEIGHTS_25, V_GENERAL_DIGIT_WEIGHTS_26, V_GENERAL_DIGIT_WEIGHTS_27, V_GENERAL_DIGIT_WEIGHTS_28, V_GENERAL_DIGIT_WEIGHTS_29, V_GENERAL_DIGIT_WEIGHTS_30, V_GENERAL_DIGIT_WEIGHTS_31, V_GENERAL_DIGIT_WEIGHTS_32, V_GENERAL_DIGIT_WEIGHTS_33, V_GENERAL_DIGIT_WEIGHTS_34, V_GENERAL_DIGIT_WEIGHTS_35, V_GENERAL_DIGIT_WEIGHTS_36, V_GENERAL_DIGIT_WEIGHTS_37, V_GENERAL_DIGIT_WEIGHTS_38, V_GENERAL_DIGIT_WEIGHTS_39, V_GENERAL_DIGIT_WEIGHTS_40, V_GENERAL_DIGIT_WEIGHTS_41, V_GENERAL_DIGIT_WEIGHTS_42, V_GENERAL_DIGIT_WEIGHTS_43⟩ := B
  exact ⟨S_GENERAL_DIGIT_WEIGHTS.ext E, A_GENERAL_DIGIT_WEIGHTS.ext E, Z_GENERAL_DIGIT_WEIGHTS, V_GENERAL_DIGIT_WEIGHTS_0, V_GENERAL_DIGIT_WEIGHTS_1, V_GENERAL_DIGIT_WEIGHTS_2, V_GENERAL_DIGIT_WEIGHTS_3, V_GENERAL_DIGIT_WEIGHTS_4, V_GENERAL_DIGIT_WEIGHTS_5, V_GENERAL_DIGIT_WEIGHTS_6, V_GENERAL_DIGIT_WEIGHTS_7, V_GENERAL_DIGIT_WEIGHTS_8, V_GENERAL_DIGIT_WEIGHTS_9, V_GENERAL_DIGIT_WEIGHTS_10, V_GENERAL_DIGIT_WEIGHTS_11, V_GENERAL_DIGIT_WEIGHTS_12, V_GENERAL_DIGIT_WEIGHTS_13, V_GENERAL_DIGIT_WEIGHTS_14, V_GENERAL_DIGIT_WEIGHTS_15, V_GENERAL_DIGIT_WEIGHTS_16, V_GENERAL_DIGIT_WEIGHTS_17, V_GENERAL_DIGIT_WEIGHTS_18, V_GENERAL_DIGIT_WEIGHTS_19, V_GENERAL_DIGIT_WEIGHTS_20, V_GENERAL_DIGIT_WEIGHTS_21, V_GENERAL_DIGIT_WEIGHTS_22, V_GENERAL_DIGIT_WEIGHTS_23, V_GENERAL_DIGIT_WEIGHTS_24, V_GENERAL_DIGIT_WEIGHTS_25, V_GENERAL_DIGIT_WEIGHTS_26, V_GENERAL_DIGIT_WEIGHTS_27, V_GENERAL_DIGIT_WEIGHTS_28, V_GENERAL_DIGIT_WEIGHTS_29, V_GENERAL_DIGIT_WEIGHTS_30, V_GENERAL_DIGIT_WEIGHTS_31, V_GENERAL_DIGIT_WEIGHTS_32, V_GENERAL_DIGIT_WEIGHTS_33, V_GENERAL_DIGIT_WEIGHTS_34, V_GENERAL_DIGIT_WEIGHTS_35, V_GENERAL_DIGIT_WEIGHTS_36, V_GENERAL_DIGIT_WEIGHTS_37, V_GENERAL_DIGIT_WEIGHTS_38, V_GENERAL_DIGIT_WEIGHTS_39, V_GENERAL_DIGIT_WEIGHTS_40, V_GENERAL_DIGIT_WEIGHTS_41, V_GENERAL_DIGIT_WEIGHTS_42, V_GENERAL_DIGIT_WEIGHTS_43⟩
theorem own_l11 (z : Int32) (h0 : 0 ≤ z.toInt) (h1 : z.toInt ≤ 10) : z = (0 : Int32) ∨ z = (1 : Int32) ∨ z = (2 : Int32) ∨ z = (3 : Int32) ∨ z = (4 : Int32) ∨ z = (5 : Int32) ∨ z = (6 : Int32) ∨ z = (7 : Int32) ∨ z = (8 : Int32) ∨ z = (9 : Int32) ∨ z = (10 : Int32) := by
  simp only [← Int32.toInt_inj]
  change z.toInt = 0 ∨ z.toInt = 1 ∨ z.toInt = 2 ∨ z.toInt = 3 ∨ z.toInt = 4 ∨ z.toInt = 5 ∨ z.toInt = 6 ∨ z.toInt = 7 ∨ z.toInt = 8 ∨ z.toInt = 9 ∨ z.toInt = 10
  omega
def own_wt (k : Nat) : Int32 := ([4, 3, 2, 9, 0, 8, 7, 6, 5, 4, 3, 2, 9, 8, 7, 6, 5, 4, 3, 2, 9, 8, 7, 6, 5, 4, 3, 2, 9, 8, 7, 6, 5, 4, 3, 2, 9, 8, 7, 6, 5, 4, 3, 2] : List Int32).getD k 0
def own_acc (W : Nat → Int32) : Nat → Int32
  | 0 => 0
  | k + 1 => own_acc W k + (W k - 48) * own_wt k
def own_r7 (W : Nat → Int32) (k : Nat) : Int32 := 2 * (W k - 48) + 3 * (W (k - 1) - 48) + 4 * (W (k - 2) - 48) + 5 * (W (k - 3) - 48) + 6 * (W (k - 4) - 48) + 7 * (W (k - 5) - 48) + 8 * (W (k - 6) - 48)
def own_r8 (W : Nat → Int32) (k : Nat) : Int32 := own_r7 W k + 9 * (W (k - 7) - 48)
def own_dg  (v1 : Int64) (n1 : Int32) : Int32 := (nar .char ((48 : Int32) + (((Jvm.Free.XT.ushrL v1 ((4 : Int32) * n1)) &&& (15 : Int64)) - (((Jvm.Free.XT.ushrL v1 ((4 : Int32) * n1)) &&& (15 : Int64)) / (10 : Int64)) * (10 : Int64)).toInt32).toUInt32.toUInt16.toUInt32.toInt32)
theorem d1_0 : decode method_2_code 0 = .ok (.bipush 48, 2) := by decide +kernel
theorem d1_2 : decode method_2_code 2 = .ok (.lload_n 0, 1) := by decide +kernel
theorem d1_3 : decode method_2_code 3 = .ok (.iconst 4, 1) := by decide +kernel
theorem d1_4 : decode method_2_code 4 = .ok (.iload_n 2, 1) := by decide +kernel
theorem d1_5 : decode method_2_code 5 = .ok (.imul, 1) := by decide +kernel
theorem d1_6 : decode method_2_code 6 = .ok (.lushr, 1) := by decide +kernel
theorem d1_7 : decode method_2_code 7 = .ok (.ldc2_w 7, 3) := by decide +kernel
theorem d1_10 : decode method_2_code 10 = .ok (.land, 1) := by decide +kernel
theorem d1_11 : decode method_2_code 11 = .ok (.ldc2_w 9, 3) := by decide +kernel
theorem d1_14 : decode method_2_code 14 = .ok (.lrem, 1) := by decide +kernel
theorem d1_15 : decode method_2_code 15 = .ok (.l2i, 1) := by decide +kernel
theorem d1_16 : decode method_2_code 16 = .ok (.iadd, 1) := by decide +kernel
theorem d1_17 : decode method_2_code 17 = .ok (.i2c, 1) := by decide +kernel
theorem d1_18 : decode method_2_code 18 = .ok (.ireturn, 1) := by decide +kernel
theorem pn_1 : plainFor (⟨"com/example/compensa/compensa/CheckDigitsGeneralDigitPinLaw", "dg", "(JI)C"⟩ : MethodName) = true := by first | exact plainFor_of_name (by first | (simp [plainName, overriddenIn]; done) | decide +kernel) | decide +kernel
set_option maxRecDepth 65536 in
set_option maxHeartbeats 40000000 in
theorem c_dg (l : Launch) (Z : State) (a0 : Array Value) (hw : ∀ d ∈ tables_1, d.before a0 Z = true)  (v1 : Int64) (n1 : Int32) (h0 : Heap)  :
    own_M l Z (⟨"com/example/compensa/compensa/CheckDigitsGeneralDigitPinLaw", "dg", "(JI)C"⟩ : MethodName) method_2_code 3 (some .char) ⟨0, 0, 0, 0⟩ #[.long v1, .int n1] h0 (fun v h L => v = some (.int (own_dg v1 n1)) ∧ L = [] ∧ h = h0) := by
  refine own_body pn_1 ?_
  intro p e s m below meth c T0 hx hby hml hlk hown hret hnm hZ X0 e0
  replace hown : s.vm.findClass "com/example/compensa/compensa/CheckDigitsGeneralDigitPinLaw" = some m.cls := hown
  replace hml : c.maxLocals = 3 := hml
  have ef : entryFrame m #[.long v1, .int n1] 3 = (mkF m 0 #[.val (.long v1), .second, .val (.int n1)] []) := by first | (simp [entryFrame, mkF, argsToLocals, Value.category]; done) | rfl
  rw [ef]
  refine own_go (fun t k => XS.bipush X0.here hx rfl (hb hby d1_0) k) ?_
  show own_G p e below _ T0 (mkF m 2 #[.val (.long v1), .second, .val (.int n1)] [(.int (48 : Int32))])
  refine own_go (fun t k => XT.lloadN X0.here hx rfl (hb hby d1_2) rfl k) ?_
  show own_G p e below _ T0 (mkF m 3 #[.val (.long v1), .second, .val (.int n1)] [(.long v1), (.int (48 : Int32))])
  refine own_go (fun t k => XS.iconst X0.here hx rfl (hb hby d1_3) k) ?_
  show own_G p e below _ T0 (mkF m 4 #[.val (.long v1), .second, .val (.int n1)] [(.int (4 : Int32)), (.long v1), (.int (48 : Int32))])
  refine own_go (fun t k => XS.iloadN X0.here hx rfl (hb hby d1_4) rfl k) ?_
  show own_G p e below _ T0 (mkF m 5 #[.val (.long v1), .second, .val (.int n1)] [(.int n1), (.int (4 : Int32)), (.long v1), (.int (48 : Int32))])
  refine own_go (fun t k => XS.imul X0.here hx rfl (hb hby d1_5) rfl k) ?_
  show own_G p e below _ T0 (mkF m 6 #[.val (.long v1), .second, .val (.int n1)] [(.int ((4 : Int32) * n1)), (.long v1), (.int (48 : Int32))])
  refine own_go (fun t k => XT.lushr X0.here hx rfl (hb hby d1_6) rfl k) ?_
  show own_G p e below _ T0 (mkF m 7 #[.val (.long v1), .second, .val (.int n1)] [(.long (Jvm.Free.XT.ushrL v1 ((4 : Int32) * n1))), (.int (48 : Int32))])
  refine own_go (X0.ldc2Long hx hown (mvT hZ (hw _ (List.mem_of_getElem? (i := 5) rfl))) (g := (mkF m 7 #[.val (.long v1), .second, .val (.int n1)] [(.long (Jvm.Free.XT.ushrL v1 ((4 : Int32) * n1))), (.int (48 : Int32))])) rfl (hb hby d1_7)) ?_
  show own_G p e below _ T0 (mkF m 10 #[.val (.long v1), .second, .val (.int n1)] [(.long (15 : Int64)), (.long (Jvm.Free.XT.ushrL v1 ((4 : Int32) * n1))), (.int (48 : Int32))])
  refine own_go (fun t k => XT.land X0.here hx rfl (hb hby d1_10) rfl k) ?_
  show own_G p e below _ T0 (mkF m 11 #[.val (.long v1), .second, .val (.int n1)] [(.long ((Jvm.Free.XT.ushrL v1 ((4 : Int32) * n1)) &&& (15 : Int64))), (.int (48 : Int32))])
  refine own_go (X0.ldc2Long hx hown (mvT hZ (hw _ (List.mem_of_getElem? (i := 6) rfl))) (g := (mkF m 11 #[.val (.long v1), .second, .val (.int n1)] [(.long ((Jvm.Free.XT.ushrL v1 ((4 : Int32) * n1)) &&& (15 : Int64))), (.int (48 : Int32))])) rfl (hb hby d1_11)) ?_
  show own_G p e below _ T0 (mkF m 14 #[.val (.long v1), .second, .val (.int n1)] [(.long (10 : Int64)), (.long ((Jvm.Free.XT.ushrL v1 ((4 : Int32) * n1)) &&& (15 : Int64))), (.int (48 : Int32))])
  refine own_go (fun t k => XT.lrem X0.here hx rfl (hb hby d1_14) rfl (by decide) k) ?_
  show own_G p e below _ T0 (mkF m 15 #[.val (.long v1), .second, .val (.int n1)] [(.long (((Jvm.Free.XT.ushrL v1 ((4 : Int32) * n1)) &&& (15 : Int64)) - (((Jvm.Free.XT.ushrL v1 ((4 : Int32) * n1)) &&& (15 : Int64)) / (10 : Int64)) * (10 : Int64))), (.int (48 : Int32))])
  refine own_go (fun t k => XT.l2i X0.here hx rfl (hb hby d1_15) rfl k) ?_
  show own_G p e below _ T0 (mkF m 16 #[.val (.long v1), .second, .val (.int n1)] [(.int (((Jvm.Free.XT.ushrL v1 ((4 : Int32) * n1)) &&& (15 : Int64)) - (((Jvm.Free.XT.ushrL v1 ((4 : Int32) * n1)) &&& (15 : Int64)) / (10 : Int64)) * (10 : Int64)).toInt32), (.int (48 : Int32))])
  refine own_go (fun t k => XS.iadd X0.here hx rfl (hb hby d1_16) rfl k) ?_
  show own_G p e below _ T0 (mkF m 17 #[.val (.long v1), .second, .val (.int n1)] [(.int ((48 : Int32) + (((Jvm.Free.XT.ushrL v1 ((4 : Int32) * n1)) &&& (15 : Int64)) - (((Jvm.Free.XT.ushrL v1 ((4 : Int32) * n1)) &&& (15 : Int64)) / (10 : Int64)) * (10 : Int64)).toInt32))])
  refine own_go (fun t k => XT.i2c X0.here hx rfl (hb hby d1_17) rfl k) ?_
  show own_G p e below _ T0 (mkF m 18 #[.val (.long v1), .second, .val (.int n1)] [(.int ((48 : Int32) + (((Jvm.Free.XT.ushrL v1 ((4 : Int32) * n1)) &&& (15 : Int64)) - (((Jvm.Free.XT.ushrL v1 ((4 : Int32) * n1)) &&& (15 : Int64)) / (10 : Int64)) * (10 : Int64)).toInt32).toUInt32.toUInt16.toUInt32.toInt32)])
  exact own_retN X0 hx hlk hret (by simp) (hb hby d1_18) (by decide) (by decide) ⟨rfl, rfl, e0⟩
theorem d4_0 : decode method_3_code 0 = .ok (.aload_n 0, 1) := by decide +kernel
theorem d4_1 : decode method_3_code 1 = .ok (.iload_n 1, 1) := by decide +kernel
theorem d4_2 : decode method_3_code 2 = .ok (.caload, 1) := by decide +kernel
theorem d4_3 : decode method_3_code 3 = .ok (.bipush 48, 2) := by decide +kernel
theorem d4_5 : decode method_3_code 5 = .ok (.isub, 1) := by decide +kernel
theorem d4_6 : decode method_3_code 6 = .ok (.ireturn, 1) := by decide +kernel
theorem pn_4 : plainFor (⟨"com/example/compensa/compensa/CheckDigitsGeneralDigitPinLaw", "d", "([CI)I"⟩ : MethodName) = true := by first | exact plainFor_of_name (by first | (simp [plainName, overriddenIn]; done) | decide +kernel) | decide +kernel
set_option maxRecDepth 65536 in
set_option maxHeartbeats 40000000 in
theorem c_d (l : Launch) (Z : State) (a0 : Array Value) (hw : ∀ d ∈ tables_1, d.before a0 Z = true) (a1 : Addr) (cl : Cell) (j1 w1 : Int32) (h0 : Heap) (Ar : Arr Z h0 a1 cl .char) (hin : ¬ (j1 < 0 ∨ cl.slots.size ≤ j1.toNatClampNeg)) (hat : cl.slots[j1.toNatClampNeg]? = some (.int w1)) :
    own_M l Z (⟨"com/example/compensa/compensa/CheckDigitsGeneralDigitPinLaw", "d", "([CI)I"⟩ : MethodName) method_3_code 2 (some .int) ⟨0, 0, 0, 0⟩ #[.ref a1, .int j1] h0 (fun v h L => v = some (.int (w1 - 48)) ∧ L = [] ∧ h = h0) := by
  refine own_body pn_4 ?_
  intro p e s m below meth c T0 hx hby hml hlk hown hret hnm hZ X0 e0
  replace hown : s.vm.findClass "com/example/compensa/compensa/CheckDigitsGeneralDigitPinLaw" = some m.cls := hown
  replace hml : c.maxLocals = 2 := hml
  have ef : entryFrame m #[.ref a1, .int j1] 2 = (mkF m 0 #[.val (.ref a1), .val (.int j1)] []) := by first | (simp [entryFrame, mkF, argsToLocals, Value.category]; done) | rfl
  rw [ef]
  refine own_go (fun t k => XS.aloadN X0.here hx rfl (hb hby d4_0) rfl rfl k) ?_
  show own_G p e below _ T0 (mkF m 1 #[.val (.ref a1), .val (.int j1)] [(.ref a1)])
  refine own_go (fun t k => XS.iloadN X0.here hx rfl (hb hby d4_1) rfl k) ?_
  show own_G p e below _ T0 (mkF m 2 #[.val (.ref a1), .val (.int j1)] [(.int j1), (.ref a1)])
  refine own_go (X0.caload hx (j := j1) (v := .int w1) (own_cellAt e0 Ar) (State.isArrayOf_alike hZ.alike Ar.2.1) Ar.2.2 hin hat (g := (mkF m 2 #[.val (.ref a1), .val (.int j1)] [(.int j1), (.ref a1)])) rfl rfl (hb hby d4_2)) ?_
  show own_G p e below _ T0 (mkF m 3 #[.val (.ref a1), .val (.int j1)] [(.int w1)])
  refine own_go (fun t k => XS.bipush X0.here hx rfl (hb hby d4_3) k) ?_
  show own_G p e below _ T0 (mkF m 5 #[.val (.ref a1), .val (.int j1)] [(.int (48 : Int32)), (.int w1)])
  refine own_go (fun t k => XS.isub X0.here hx rfl (hb hby d4_5) rfl k) ?_
  show own_G p e below _ T0 (mkF m 6 #[.val (.ref a1), .val (.int j1)] [(.int (w1 - (48 : Int32)))])
  exact own_retI X0 hx hlk hret (hb hby d4_6) (by decide) (by decide) ⟨rfl, rfl, e0⟩
theorem d3_0 : decode method_4_code 0 = .ok (.iconst 2, 1) := by decide +kernel
theorem d3_1 : decode method_4_code 1 = .ok (.aload_n 0, 1) := by decide +kernel
theorem d3_2 : decode method_4_code 2 = .ok (.iload_n 1, 1) := by decide +kernel
theorem d3_3 : decode method_4_code 3 = .ok (.invokestatic 11, 3) := by decide +kernel
theorem d3_6 : decode method_4_code 6 = .ok (.imul, 1) := by decide +kernel
theorem d3_7 : decode method_4_code 7 = .ok (.iconst 3, 1) := by decide +kernel
theorem d3_8 : decode method_4_code 8 = .ok (.aload_n 0, 1) := by decide +kernel
theorem d3_9 : decode method_4_code 9 = .ok (.iload_n 1, 1) := by decide +kernel
theorem d3_10 : decode method_4_code 10 = .ok (.iconst 1, 1) := by decide +kernel
theorem d3_11 : decode method_4_code 11 = .ok (.isub, 1) := by decide +kernel
theorem d3_12 : decode method_4_code 12 = .ok (.invokestatic 11, 3) := by decide +kernel
theorem d3_15 : decode method_4_code 15 = .ok (.imul, 1) := by decide +kernel
theorem d3_16 : decode method_4_code 16 = .ok (.iadd, 1) := by decide +kernel
theorem d3_17 : decode method_4_code 17 = .ok (.iconst 4, 1) := by decide +kernel
theorem d3_18 : decode method_4_code 18 = .ok (.aload_n 0, 1) := by decide +kernel
theorem d3_19 : decode method_4_code 19 = .ok (.iload_n 1, 1) := by decide +kernel
theorem d3_20 : decode method_4_code 20 = .ok (.iconst 2, 1) := by decide +kernel
theorem d3_21 : decode method_4_code 21 = .ok (.isub, 1) := by decide +kernel
theorem d3_22 : decode method_4_code 22 = .ok (.invokestatic 11, 3) := by decide +kernel
theorem d3_25 : decode method_4_code 25 = .ok (.imul, 1) := by decide +kernel
theorem d3_26 : decode method_4_code 26 = .ok (.iadd, 1) := by decide +kernel
theorem d3_27 : decode method_4_code 27 = .ok (.iconst 5, 1) := by decide +kernel
theorem d3_28 : decode method_4_code 28 = .ok (.aload_n 0, 1) := by decide +kernel
theorem d3_29 : decode method_4_code 29 = .ok (.iload_n 1, 1) := by decide +kernel
theorem d3_30 : decode method_4_code 30 = .ok (.iconst 3, 1) := by decide +kernel
theorem d3_31 : decode method_4_code 31 = .ok (.isub, 1) := by decide +kernel
theorem d3_32 : decode method_4_code 32 = .ok (.invokestatic 11, 3) := by decide +kernel
theorem d3_35 : decode method_4_code 35 = .ok (.imul, 1) := by decide +kernel
theorem d3_36 : decode method_4_code 36 = .ok (.iadd, 1) := by decide +kernel
theorem d3_37 : decode method_4_code 37 = .ok (.bipush 6, 2) := by decide +kernel
theorem d3_39 : decode method_4_code 39 = .ok (.aload_n 0, 1) := by decide +kernel
theorem d3_40 : decode method_4_code 40 = .ok (.iload_n 1, 1) := by decide +kernel
theorem d3_41 : decode method_4_code 41 = .ok (.iconst 4, 1) := by decide +kernel
theorem d3_42 : decode method_4_code 42 = .ok (.isub, 1) := by decide +kernel
theorem d3_43 : decode method_4_code 43 = .ok (.invokestatic 11, 3) := by decide +kernel
theorem d3_46 : decode method_4_code 46 = .ok (.imul, 1) := by decide +kernel
theorem d3_47 : decode method_4_code 47 = .ok (.iadd, 1) := by decide +kernel
theorem d3_48 : decode method_4_code 48 = .ok (.bipush 7, 2) := by decide +kernel
theorem d3_50 : decode method_4_code 50 = .ok (.aload_n 0, 1) := by decide +kernel
theorem d3_51 : decode method_4_code 51 = .ok (.iload_n 1, 1) := by decide +kernel
theorem d3_52 : decode method_4_code 52 = .ok (.iconst 5, 1) := by decide +kernel
theorem d3_53 : decode method_4_code 53 = .ok (.isub, 1) := by decide +kernel
theorem d3_54 : decode method_4_code 54 = .ok (.invokestatic 11, 3) := by decide +kernel
theorem d3_57 : decode method_4_code 57 = .ok (.imul, 1) := by decide +kernel
theorem d3_58 : decode method_4_code 58 = .ok (.iadd, 1) := by decide +kernel
theorem d3_59 : decode method_4_code 59 = .ok (.bipush 8, 2) := by decide +kernel
theorem d3_61 : decode method_4_code 61 = .ok (.aload_n 0, 1) := by decide +kernel
theorem d3_62 : decode method_4_code 62 = .ok (.iload_n 1, 1) := by decide +kernel
theorem d3_63 : decode method_4_code 63 = .ok (.bipush 6, 2) := by decide +kernel
theorem d3_65 : decode method_4_code 65 = .ok (.isub, 1) := by decide +kernel
theorem d3_66 : decode method_4_code 66 = .ok (.invokestatic 11, 3) := by decide +kernel
theorem d3_69 : decode method_4_code 69 = .ok (.imul, 1) := by decide +kernel
theorem d3_70 : decode method_4_code 70 = .ok (.iadd, 1) := by decide +kernel
theorem d3_71 : decode method_4_code 71 = .ok (.ireturn, 1) := by decide +kernel
theorem pn_3 : plainFor (⟨"com/example/compensa/compensa/CheckDigitsGeneralDigitPinLaw", "run7", "([CI)I"⟩ : MethodName) = true := by first | exact plainFor_of_name (by first | (simp [plainName, overriddenIn]; done) | decide +kernel) | decide +kernel
set_option maxRecDepth 65536 in
set_option maxHeartbeats 40000000 in
theorem c_run7_43 (l : Launch) (Z : State) (a0 : Array Value) (hw : ∀ d ∈ tables_1, d.before a0 Z = true) (a1 : Addr) (cl : Cell) (W : Nat → Int32) (h0 : Heap) (Ar : Arr Z h0 a1 cl .char) (hsz : cl.slots.size = 44) (hat : ∀ i, i < 44 → cl.slots[i]? = some (.int (W i))) :
    own_M l Z (⟨"com/example/compensa/compensa/CheckDigitsGeneralDigitPinLaw", "run7", "([CI)I"⟩ : MethodName) method_4_code 2 (some .int) ⟨1, 0, 0, 30⟩ #[.ref a1, .int (43 : Int32)] h0 (fun v h L => v = some (.int (own_r7 W 43)) ∧ L = [] ∧ h = h0) := by
  refine own_body pn_3 ?_
  intro p e s m below meth c T0 hx hby hml hlk hown hret hnm hZ X0 e0
  replace hown : s.vm.findClass "com/example/compensa/compensa/CheckDigitsGeneralDigitPinLaw" = some m.cls := hown
  replace hml : c.maxLocals = 2 := hml
  have ef : entryFrame m #[.ref a1, .int (43 : Int32)] 2 = (mkF m 0 #[.val (.ref a1), .val (.int (43 : Int32))] []) := by first | (simp [entryFrame, mkF, argsToLocals, Value.category]; done) | rfl
  rw [ef]
  refine own_go (fun t k => XS.iconst X0.here hx rfl (hb hby d3_0) k) ?_
  show own_G p e below _ T0 (mkF m 1 #[.val (.ref a1), .val (.int (43 : Int32))] [(.int (2 : Int32))])
  refine own_go (fun t k => XS.aloadN X0.here hx rfl (hb hby d3_1) rfl rfl k) ?_
  show own_G p e below _ T0 (mkF m 2 #[.val (.ref a1), .val (.int (43 : Int32))] [(.ref a1), (.int (2 : Int32))])
  refine own_go (fun t k => XS.iloadN X0.here hx rfl (hb hby d3_2) rfl k) ?_
  show own_G p e below _ T0 (mkF m 3 #[.val (.ref a1), .val (.int (43 : Int32))] [(.int (43 : Int32)), (.ref a1), (.int (2 : Int32))])
  obtain ⟨T1, L1, v1, X1, ⟨rfl, rfl, q1⟩, st1⟩ := own_callS X0 hx hZ (y := (⟨"com/example/compensa/compensa/CheckDigitsGeneralDigitPinLaw", "d", "([CI)I"⟩ : MethodName)) hown (hw _ (List.mem_of_getElem? (i := 13) rfl)) (hw _ (List.mem_of_getElem? (i := 14) rfl)) (hw _ (List.mem_of_getElem? (i := 3) rfl)) (hw _ (List.mem_of_getElem? (i := 15) rfl)) (by decide) (c_d l Z a0 hw a1 cl (43 : Int32) (W 43) h0 Ar (own_in hsz (by decide)) (hat 43 (by decide))) e0 (argsL := [(.ref a1), (.int (43 : Int32))]) (rest := [(.int (2 : Int32))]) (g := (mkF m 3 #[.val (.ref a1), .val (.int (43 : Int32))] [(.int (43 : Int32)), (.ref a1), (.int (2 : Int32))])) rfl (by rw [hml]; rfl) (ps := [(.array .char), .int]) (r := (some .int)) (by decide +kernel) rfl rfl (W := 1) (by show 2 * 0 + _ ≤ _; exact Nat.le_of_eq rfl) (hb hby d3_3) (by decide) (by decide) (by decide) (by decide)
  refine own_go st1 ?_
  show own_G p e below _ T1 (mkF m 6 #[.val (.ref a1), .val (.int (43 : Int32))] [(.int (W 43 - (48 : Int32))), (.int (2 : Int32))])
  refine own_go (fun t k => XS.imul X1.here hx rfl (hb hby d3_6) rfl k) ?_
  show own_G p e below _ T1 (mkF m 7 #[.val (.ref a1), .val (.int (43 : Int32))] [(.int ((2 : Int32) * (W 43 - (48 : Int32))))])
  refine own_go (fun t k => XS.iconst X1.here hx rfl (hb hby d3_7) k) ?_
  show own_G p e below _ T1 (mkF m 8 #[.val (.ref a1), .val (.int (43 : Int32))] [(.int (3 : Int32)), (.int ((2 : Int32) * (W 43 - (48 : Int32))))])
  refine own_go (fun t k => XS.aloadN X1.here hx rfl (hb hby d3_8) rfl rfl k) ?_
  show own_G p e below _ T1 (mkF m 9 #[.val (.ref a1), .val (.int (43 : Int32))] [(.ref a1), (.int (3 : Int32)), (.int ((2 : Int32) * (W 43 - (48 : Int32))))])
  refine own_go (fun t k => XS.iloadN X1.here hx rfl (hb hby d3_9) rfl k) ?_
  show own_G p e below _ T1 (mkF m 10 #[.val (.ref a1), .val (.int (43 : Int32))] [(.int (43 : Int32)), (.ref a1), (.int (3 : Int32)), (.int ((2 : Int32) * (W 43 - (48 : Int32))))])
  refine own_go (fun t k => XS.iconst X1.here hx rfl (hb hby d3_10) k) ?_
  show own_G p e below _ T1 (mkF m 11 #[.val (.ref a1), .val (.int (43 : Int32))] [(.int (1 : Int32)), (.int (43 : Int32)), (.ref a1), (.int (3 : Int32)), (.int ((2 : Int32) * (W 43 - (48 : Int32))))])
  refine own_go (fun t k => XS.isub X1.here hx rfl (hb hby d3_11) rfl k) ?_
  show own_G p e below _ T1 (mkF m 12 #[.val (.ref a1), .val (.int (43 : Int32))] [(.int (42 : Int32)), (.ref a1), (.int (3 : Int32)), (.int ((2 : Int32) * (W 43 - (48 : Int32))))])
  obtain ⟨T2, L2, v2, X2, ⟨rfl, rfl, q2⟩, st2⟩ := own_callS X1 hx hZ (y := (⟨"com/example/compensa/compensa/CheckDigitsGeneralDigitPinLaw", "d", "([CI)I"⟩ : MethodName)) hown (hw _ (List.mem_of_getElem? (i := 13) rfl)) (hw _ (List.mem_of_getElem? (i := 14) rfl)) (hw _ (List.mem_of_getElem? (i := 3) rfl)) (hw _ (List.mem_of_getElem? (i := 15) rfl)) (by decide) (c_d l Z a0 hw a1 cl (42 : Int32) (W 42) h0 Ar (own_in hsz (by decide)) (hat 42 (by decide))) q1 (argsL := [(.ref a1), (.int (42 : Int32))]) (rest := [(.int (3 : Int32)), (.int ((2 : Int32) * (W 43 - (48 : Int32))))]) (g := (mkF m 12 #[.val (.ref a1), .val (.int (43 : Int32))] [(.int (42 : Int32)), (.ref a1), (.int (3 : Int32)), (.int ((2 : Int32) * (W 43 - (48 : Int32))))])) rfl (by rw [hml]; rfl) (ps := [(.array .char), .int]) (r := (some .int)) (by decide +kernel) rfl rfl (W := 2) (by show 2 * 0 + _ ≤ _; exact Nat.le_of_eq rfl) (hb hby d3_12) (by decide) (by decide) (by decide) (by decide)
  refine own_go st2 ?_
  show own_G p e below _ T2 (mkF m 15 #[.val (.ref a1), .val (.int (43 : Int32))] [(.int (W 42 - (48 : Int32))), (.int (3 : Int32)), (.int ((2 : Int32) * (W 43 - (48 : Int32))))])
  refine own_go (fun t k => XS.imul X2.here hx rfl (hb hby d3_15) rfl k) ?_
  show own_G p e below _ T2 (mkF m 16 #[.val (.ref a1), .val (.int (43 : Int32))] [(.int ((3 : Int32) * (W 42 - (48 : Int32)))), (.int ((2 : Int32) * (W 43 - (48 : Int32))))])
  refine own_go (fun t k => XS.iadd X2.here hx rfl (hb hby d3_16) rfl k) ?_
  show own_G p e below _ T2 (mkF m 17 #[.val (.ref a1), .val (.int (43 : Int32))] [(.int (((2 : Int32) * (W 43 - (48 : Int32))) + ((3 : Int32) * (W 42 - (48 : Int32)))))])
  refine own_go (fun t k => XS.iconst X2.here hx rfl (hb hby d3_17) k) ?_
  show own_G p e below _ T2 (mkF m 18 #[.val (.ref a1), .val (.int (43 : Int32))] [(.int (4 : Int32)), (.int (((2 : Int32) * (W 43 - (48 : Int32))) + ((3 : Int32) * (W 42 - (48 : Int32)))))])
  refine own_go (fun t k => XS.aloadN X2.here hx rfl (hb hby d3_18) rfl rfl k) ?_
  show own_G p e below _ T2 (mkF m 19 #[.val (.ref a1), .val (.int (43 : Int32))] [(.ref a1), (.int (4 : Int32)), (.int (((2 : Int32) * (W 43 - (48 : Int32))) + ((3 : Int32) * (W 42 - (48 : Int32)))))])
  refine own_go (fun t k => XS.iloadN X2.here hx rfl (hb hby d3_19) rfl k) ?_
  show own_G p e below _ T2 (mkF m 20 #[.val (.ref a1), .val (.int (43 : Int32))] [(.int (43 : Int32)), (.ref a1), (.int (4 : Int32)), (.int (((2 : Int32) * (W 43 - (48 : Int32))) + ((3 : Int32) * (W 42 - (48 : Int32)))))])
  refine own_go (fun t k => XS.iconst X2.here hx rfl (hb hby d3_20) k) ?_
  show own_G p e below _ T2 (mkF m 21 #[.val (.ref a1), .val (.int (43 : Int32))] [(.int (2 : Int32)), (.int (43 : Int32)), (.ref a1), (.int (4 : Int32)), (.int (((2 : Int32) * (W 43 - (48 : Int32))) + ((3 : Int32) * (W 42 - (48 : Int32)))))])
  refine own_go (fun t k => XS.isub X2.here hx rfl (hb hby d3_21) rfl k) ?_
  show own_G p e below _ T2 (mkF m 22 #[.val (.ref a1), .val (.int (43 : Int32))] [(.int (41 : Int32)), (.ref a1), (.int (4 : Int32)), (.int (((2 : Int32) * (W 43 - (48 : Int32))) + ((3 : Int32) * (W 42 - (48 : Int32)))))])
  obtain ⟨T3, L3, v3, X3, ⟨rfl, rfl, q3⟩, st3⟩ := own_callS X2 hx hZ (y := (⟨"com/example/compensa/compensa/CheckDigitsGeneralDigitPinLaw", "d", "([CI)I"⟩ : MethodName)) hown (hw _ (List.mem_of_getElem? (i := 13) rfl)) (hw _ (List.mem_of_getElem? (i := 14) rfl)) (hw _ (List.mem_of_getElem? (i := 3) rfl)) (hw _ (List.mem_of_getElem? (i := 15) rfl)) (by decide) (c_d l Z a0 hw a1 cl (41 : Int32) (W 41) h0 Ar (own_in hsz (by decide)) (hat 41 (by decide))) q2 (argsL := [(.ref a1), (.int (41 : Int32))]) (rest := [(.int (4 : Int32)), (.int (((2 : Int32) * (W 43 - (48 : Int32))) + ((3 : Int32) * (W 42 - (48 : Int32)))))]) (g := (mkF m 22 #[.val (.ref a1), .val (.int (43 : Int32))] [(.int (41 : Int32)), (.ref a1), (.int (4 : Int32)), (.int (((2 : Int32) * (W 43 - (48 : Int32))) + ((3 : Int32) * (W 42 - (48 : Int32)))))])) rfl (by rw [hml]; rfl) (ps := [(.array .char), .int]) (r := (some .int)) (by decide +kernel) rfl rfl (W := 2) (by show 2 * 0 + _ ≤ _; exact Nat.le_of_eq rfl) (hb hby d3_22) (by decide) (by decide) (by decide) (by decide)
  refine own_go st3 ?_
  show own_G p e below _ T3 (mkF m 25 #[.val (.ref a1), .val (.int (43 : Int32))] [(.int (W 41 - (48 : Int32))), (.int (4 : Int32)), (.int (((2 : Int32) * (W 43 - (48 : Int32))) + ((3 : Int32) * (W 42 - (48 : Int32)))))])
  refine own_go (fun t k => XS.imul X3.here hx rfl (hb hby d3_25) rfl k) ?_
  show own_G p e below _ T3 (mkF m 26 #[.val (.ref a1), .val (.int (43 : Int32))] [(.int ((4 : Int32) * (W 41 - (48 : Int32)))), (.int (((2 : Int32) * (W 43 - (48 : Int32))) + ((3 : Int32) * (W 42 - (48 : Int32)))))])
  refine own_go (fun t k => XS.iadd X3.here hx rfl (hb hby d3_26) rfl k) ?_
  show own_G p e below _ T3 (mkF m 27 #[.val (.ref a1), .val (.int (43 : Int32))] [(.int ((((2 : Int32) * (W 43 - (48 : Int32))) + ((3 : Int32) * (W 42 - (48 : Int32)))) + ((4 : Int32) * (W 41 - (48 : Int32)))))])
  refine own_go (fun t k => XS.iconst X3.here hx rfl (hb hby d3_27) k) ?_
  show own_G p e below _ T3 (mkF m 28 #[.val (.ref a1), .val (.int (43 : Int32))] [(.int (5 : Int32)), (.int ((((2 : Int32) * (W 43 - (48 : Int32))) + ((3 : Int32) * (W 42 - (48 : Int32)))) + ((4 : Int32) * (W 41 - (48 : Int32)))))])
  refine own_go (fun t k => XS.aloadN X3.here hx rfl (hb hby d3_28) rfl rfl k) ?_
  show own_G p e below _ T3 (mkF m 29 #[.val (.ref a1), .val (.int (43 : Int32))] [(.ref a1), (.int (5 : Int32)), (.int ((((2 : Int32) * (W 43 - (48 : Int32))) + ((3 : Int32) * (W 42 - (48 : Int32)))) + ((4 : Int32) * (W 41 - (48 : Int32)))))])
  refine own_go (fun t k => XS.iloadN X3.here hx rfl (hb hby d3_29) rfl k) ?_
  show own_G p e below _ T3 (mkF m 30 #[.val (.ref a1), .val (.int (43 : Int32))] [(.int (43 : Int32)), (.ref a1), (.int (5 : Int32)), (.int ((((2 : Int32) * (W 43 - (48 : Int32))) + ((3 : Int32) * (W 42 - (48 : Int32)))) + ((4 : Int32) * (W 41 - (48 : Int32)))))])
  refine own_go (fun t k => XS.iconst X3.here hx rfl (hb hby d3_30) k) ?_
  show own_G p e below _ T3 (mkF m 31 #[.val (.ref a1), .val (.int (43 : Int32))] [(.int (3 : Int32)), (.int (43 : Int32)), (.ref a1), (.int (5 : Int32)), (.int ((((2 : Int32) * (W 43 - (48 : Int32))) + ((3 : Int32) * (W 42 - (48 : Int32)))) + ((4 : Int32) * (W 41 - (48 : Int32)))))])
  refine own_go (fun t k => XS.isub X3.here hx rfl (hb hby d3_31) rfl k) ?_
  show own_G p e below _ T3 (mkF m 32 #[.val (.ref a1), .val (.int (43 : Int32))] [(.int (40 : Int32)), (.ref a1), (.int (5 : Int32)), (.int ((((2 : Int32) * (W 43 - (48 : Int32))) + ((3 : Int32) * (W 42 - (48 : Int32)))) + ((4 : Int32) * (W 41 - (48 : Int32)))))])
  obtain ⟨T4, L4, v4, X4, ⟨rfl, rfl, q4⟩, st4⟩ := own_callS X3 hx hZ (y := (⟨"com/example/compensa/compensa/CheckDigitsGeneralDigitPinLaw", "d", "([CI)I"⟩ : MethodName)) hown (hw _ (List.mem_of_getElem? (i := 13) rfl)) (hw _ (List.mem_of_getElem? (i := 14) rfl)) (hw _ (List.mem_of_getElem? (i := 3) rfl)) (hw _ (List.mem_of_getElem? (i := 15) rfl)) (by decide) (c_d l Z a0 hw a1 cl (40 : Int32) (W 40) h0 Ar (own_in hsz (by decide)) (hat 40 (by decide))) q3 (argsL := [(.ref a1), (.int (40 : Int32))]) (rest := [(.int (5 : Int32)), (.int ((((2 : Int32) * (W 43 - (48 : Int32))) + ((3 : Int32) * (W 42 - (48 : Int32)))) + ((4 : Int32) * (W 41 - (48 : Int32)))))]) (g := (mkF m 32 #[.val (.ref a1), .val (.int (43 : Int32))] [(.int (40 : Int32)), (.ref a1), (.int (5 : Int32)), (.int ((((2 : Int32) * (W 43 - (48 : Int32))) + ((3 : Int32) * (W 42 - (48 : Int32)))) + ((4 : Int32) * (W 41 - (48 : Int32)))))])) rfl (by rw [hml]; rfl) (ps := [(.array .char), .int]) (r := (some .int)) (by decide +kernel) rfl rfl (W := 2) (by show 2 * 0 + _ ≤ _; exact Nat.le_of_eq rfl) (hb hby d3_32) (by decide) (by decide) (by decide) (by decide)
  refine own_go st4 ?_
  show own_G p e below _ T4 (mkF m 35 #[.val (.ref a1), .val (.int (43 : Int32))] [(.int (W 40 - (48 : Int32))), (.int (5 : Int32)), (.int ((((2 : Int32) * (W 43 - (48 : Int32))) + ((3 : Int32) * (W 42 - (48 : Int32)))) + ((4 : Int32) * (W 41 - (48 : Int32)))))])
  refine own_go (fun t k => XS.imul X4.here hx rfl (hb hby d3_35) rfl k) ?_
  show own_G p e below _ T4 (mkF m 36 #[.val (.ref a1), .val (.int (43 : Int32))] [(.int ((5 : Int32) * (W 40 - (48 : Int32)))), (.int ((((2 : Int32) * (W 43 - (48 : Int32))) + ((3 : Int32) * (W 42 - (48 : Int32)))) + ((4 : Int32) * (W 41 - (48 : Int32)))))])
  refine own_go (fun t k => XS.iadd X4.here hx rfl (hb hby d3_36) rfl k) ?_
  show own_G p e below _ T4 (mkF m 37 #[.val (.ref a1), .val (.int (43 : Int32))] [(.int (((((2 : Int32) * (W 43 - (48 : Int32))) + ((3 : Int32) * (W 42 - (48 : Int32)))) + ((4 : Int32) * (W 41 - (48 : Int32)))) + ((5 : Int32) * (W 40 - (48 : Int32)))))])
  refine own_go (fun t k => XS.bipush X4.here hx rfl (hb hby d3_37) k) ?_
  show own_G p e below _ T4 (mkF m 39 #[.val (.ref a1), .val (.int (43 : Int32))] [(.int (6 : Int32)), (.int (((((2 : Int32) * (W 43 - (48 : Int32))) + ((3 : Int32) * (W 42 - (48 : Int32)))) + ((4 : Int32) * (W 41 - (48 : Int32)))) + ((5 : Int32) * (W 40 - (48 : Int32)))))])
  refine own_go (fun t k => XS.aloadN X4.here hx rfl (hb hby d3_39) rfl rfl k) ?_
  show own_G p e below _ T4 (mkF m 40 #[.val (.ref a1), .val (.int (43 : Int32))] [(.ref a1), (.int (6 : Int32)), (.int (((((2 : Int32) * (W 43 - (48 : Int32))) + ((3 : Int32) * (W 42 - (48 : Int32)))) + ((4 : Int32) * (W 41 - (48 : Int32)))) + ((5 : Int32) * (W 40 - (48 : Int32)))))])
  refine own_go (fun t k => XS.iloadN X4.here hx rfl (hb hby d3_40) rfl k) ?_
  show own_G p e below _ T4 (mkF m 41 #[.val (.ref a1), .val (.int (43 : Int32))] [(.int (43 : Int32)), (.ref a1), (.int (6 : Int32)), (.int (((((2 : Int32) * (W 43 - (48 : Int32))) + ((3 : Int32) * (W 42 - (48 : Int32)))) + ((4 : Int32) * (W 41 - (48 : Int32)))) + ((5 : Int32) * (W 40 - (48 : Int32)))))])
  refine own_go (fun t k => XS.iconst X4.here hx rfl (hb hby d3_41) k) ?_
  show own_G p e below _ T4 (mkF m 42 #[.val (.ref a1), .val (.int (43 : Int32))] [(.int (4 : Int32)), (.int (43 : Int32)), (.ref a1), (.int (6 : Int32)), (.int (((((2 : Int32) * (W 43 - (48 : Int32))) + ((3 : Int32) * (W 42 - (48 : Int32)))) + ((4 : Int32) * (W 41 - (48 : Int32)))) + ((5 : Int32) * (W 40 - (48 : Int32)))))])
  refine own_go (fun t k => XS.isub X4.here hx rfl (hb hby d3_42) rfl k) ?_
  show own_G p e below _ T4 (mkF m 43 #[.val (.ref a1), .val (.int (43 : Int32))] [(.int (39 : Int32)), (.ref a1), (.int (6 : Int32)), (.int (((((2 : Int32) * (W 43 - (48 : Int32))) + ((3 : Int32) * (W 42 - (48 : Int32)))) + ((4 : Int32) * (W 41 - (48 : Int32)))) + ((5 : Int32) * (W 40 - (48 : Int32)))))])
  obtain ⟨T5, L5, v5, X5, ⟨rfl, rfl, q5⟩, st5⟩ := own_callS X4 hx hZ (y := (⟨"com/example/compensa/compensa/CheckDigitsGeneralDigitPinLaw", "d", "([CI)I"⟩ : MethodName)) hown (hw _ (List.mem_of_getElem? (i := 13) rfl)) (hw _ (List.mem_of_getElem? (i := 14) rfl)) (hw _ (List.mem_of_getElem? (i := 3) rfl)) (hw _ (List.mem_of_getElem? (i := 15) rfl)) (by decide) (c_d l Z a0 hw a1 cl (39 : Int32) (W 39) h0 Ar (own_in hsz (by decide)) (hat 39 (by decide))) q4 (argsL := [(.ref a1), (.int (39 : Int32))]) (rest := [(.int (6 : Int32)), (.int (((((2 : Int32) * (W 43 - (48 : Int32))) + ((3 : Int32) * (W 42 - (48 : Int32)))) + ((4 : Int32) * (W 41 - (48 : Int32)))) + ((5 : Int32) * (W 40 - (48 : Int32)))))]) (g := (mkF m 43 #[.val (.ref a1), .val (.int (43 : Int32))] [(.int (39 : Int32)), (.ref a1), (.int (6 : Int32)), (.int (((((2 : Int32) * (W 43 - (48 : Int32))) + ((3 : Int32) * (W 42 - (48 : Int32)))) + ((4 : Int32) * (W 41 - (48 : Int32)))) + ((5 : Int32) * (W 40 - (48 : Int32)))))])) rfl (by rw [hml]; rfl) (ps := [(.array .char), .int]) (r := (some .int)) (by decide +kernel) rfl rfl (W := 2) (by show 2 * 0 + _ ≤ _; exact Nat.le_of_eq rfl) (hb hby d3_43) (by decide) (by decide) (by decide) (by decide)
  refine own_go st5 ?_
  show own_G p e below _ T5 (mkF m 46 #[.val (.ref a1), .val (.int (43 : Int32))] [(.int (W 39 - (48 : Int32))), (.int (6 : Int32)), (.int (((((2 : Int32) * (W 43 - (48 : Int32))) + ((3 : Int32) * (W 42 - (48 : Int32)))) + ((4 : Int32) * (W 41 - (48 : Int32)))) + ((5 : Int32) * (W 40 - (48 : Int32)))))])
  refine own_go (fun t k => XS.imul X5.here hx rfl (hb hby d3_46) rfl k) ?_
  show own_G p e below _ T5 (mkF m 47 #[.val (.ref a1), .val (.int (43 : Int32))] [(.int ((6 : Int32) * (W 39 - (48 : Int32)))), (.int (((((2 : Int32) * (W 43 - (48 : Int32))) + ((3 : Int32) * (W 42 - (48 : Int32)))) + ((4 : Int32) * (W 41 - (48 : Int32)))) + ((5 : Int32) * (W 40 - (48 : Int32)))))])
  refine own_go (fun t k => XS.iadd X5.here hx rfl (hb hby d3_47) rfl k) ?_
  show own_G p e below _ T5 (mkF m 48 #[.val (.ref a1), .val (.int (43 : Int32))] [(.int ((((((2 : Int32) * (W 43 - (48 : Int32))) + ((3 : Int32) * (W 42 - (48 : Int32)))) + ((4 : Int32) * (W 41 - (48 : Int32)))) + ((5 : Int32) * (W 40 - (48 : Int32)))) + ((6 : Int32) * (W 39 - (48 : Int32)))))])
  refine own_go (fun t k => XS.bipush X5.here hx rfl (hb hby d3_48) k) ?_
  show own_G p e below _ T5 (mkF m 50 #[.val (.ref a1), .val (.int (43 : Int32))] [(.int (7 : Int32)), (.int ((((((2 : Int32) * (W 43 - (48 : Int32))) + ((3 : Int32) * (W 42 - (48 : Int32)))) + ((4 : Int32) * (W 41 - (48 : Int32)))) + ((5 : Int32) * (W 40 - (48 : Int32)))) + ((6 : Int32) * (W 39 - (48 : Int32)))))])
  refine own_go (fun t k => XS.aloadN X5.here hx rfl (hb hby d3_50) rfl rfl k) ?_
  show own_G p e below _ T5 (mkF m 51 #[.val (.ref a1), .val (.int (43 : Int32))] [(.ref a1), (.int (7 : Int32)), (.int ((((((2 : Int32) * (W 43 - (48 : Int32))) + ((3 : Int32) * (W 42 - (48 : Int32)))) + ((4 : Int32) * (W 41 - (48 : Int32)))) + ((5 : Int32) * (W 40 - (48 : Int32)))) + ((6 : Int32) * (W 39 - (48 : Int32)))))])
  refine own_go (fun t k => XS.iloadN X5.here hx rfl (hb hby d3_51) rfl k) ?_
  show own_G p e below _ T5 (mkF m 52 #[.val (.ref a1), .val (.int (43 : Int32))] [(.int (43 : Int32)), (.ref a1), (.int (7 : Int32)), (.int ((((((2 : Int32) * (W 43 - (48 : Int32))) + ((3 : Int32) * (W 42 - (48 : Int32)))) + ((4 : Int32) * (W 41 - (48 : Int32)))) + ((5 : Int32) * (W 40 - (48 : Int32)))) + ((6 : Int32) * (W 39 - (48 : Int32)))))])
  refine own_go (fun t k => XS.iconst X5.here hx rfl (hb hby d3_52) k) ?_
  show own_G p e below _ T5 (mkF m 53 #[.val (.ref a1), .val (.int (43 : Int32))] [(.int (5 : Int32)), (.int (43 : Int32)), (.ref a1), (.int (7 : Int32)), (.int ((((((2 : Int32) * (W 43 - (48 : Int32))) + ((3 : Int32) * (W 42 - (48 : Int32)))) + ((4 : Int32) * (W 41 - (48 : Int32)))) + ((5 : Int32) * (W 40 - (48 : Int32)))) + ((6 : Int32) * (W 39 - (48 : Int32)))))])
  refine own_go (fun t k => XS.isub X5.here hx rfl (hb hby d3_53) rfl k) ?_
  show own_G p e below _ T5 (mkF m 54 #[.val (.ref a1), .val (.int (43 : Int32))] [(.int (38 : Int32)), (.ref a1), (.int (7 : Int32)), (.int ((((((2 : Int32) * (W 43 - (48 : Int32))) + ((3 : Int32) * (W 42 - (48 : Int32)))) + ((4 : Int32) * (W 41 - (48 : Int32)))) + ((5 : Int32) * (W 40 - (48 : Int32)))) + ((6 : Int32) * (W 39 - (48 : Int32)))))])
  obtain ⟨T6, L6, v6, X6, ⟨rfl, rfl, q6⟩, st6⟩ := own_callS X5 hx hZ (y := (⟨"com/example/compensa/compensa/CheckDigitsGeneralDigitPinLaw", "d", "([CI)I"⟩ : MethodName)) hown (hw _ (List.mem_of_getElem? (i := 13) rfl)) (hw _ (List.mem_of_getElem? (i := 14) rfl)) (hw _ (List.mem_of_getElem? (i := 3) rfl)) (hw _ (List.mem_of_getElem? (i := 15) rfl)) (by decide) (c_d l Z a0 hw a1 cl (38 : Int32) (W 38) h0 Ar (own_in hsz (by decide)) (hat 38 (by decide))) q5 (argsL := [(.ref a1), (.int (38 : Int32))]) (rest := [(.int (7 : Int32)), (.int ((((((2 : Int32) * (W 43 - (48 : Int32))) + ((3 : Int32) * (W 42 - (48 : Int32)))) + ((4 : Int32) * (W 41 - (48 : Int32)))) + ((5 : Int32) * (W 40 - (48 : Int32)))) + ((6 : Int32) * (W 39 - (48 : Int32)))))]) (g := (mkF m 54 #[.val (.ref a1), .val (.int (43 : Int32))] [(.int (38 : Int32)), (.ref a1), (.int (7 : Int32)), (.int ((((((2 : Int32) * (W 43 - (48 : Int32))) + ((3 : Int32) * (W 42 - (48 : Int32)))) + ((4 : Int32) * (W 41 - (48 : Int32)))) + ((5 : Int32) * (W 40 - (48 : Int32)))) + ((6 : Int32) * (W 39 - (48 : Int32)))))])) rfl (by rw [hml]; rfl) (ps := [(.array .char), .int]) (r := (some .int)) (by decide +kernel) rfl rfl (W := 2) (by show 2 * 0 + _ ≤ _; exact Nat.le_of_eq rfl) (hb hby d3_54) (by decide) (by decide) (by decide) (by decide)
  refine own_go st6 ?_
  show own_G p e below _ T6 (mkF m 57 #[.val (.ref a1), .val (.int (43 : Int32))] [(.int (W 38 - (48 : Int32))), (.int (7 : Int32)), (.int ((((((2 : Int32) * (W 43 - (48 : Int32))) + ((3 : Int32) * (W 42 - (48 : Int32)))) + ((4 : Int32) * (W 41 - (48 : Int32)))) + ((5 : Int32) * (W 40 - (48 : Int32)))) + ((6 : Int32) * (W 39 - (48 : Int32)))))])
  refine own_go (fun t k => XS.imul X6.here hx rfl (hb hby d3_57) rfl k) ?_
  show own_G p e below _ T6 (mkF m 58 #[.val (.ref a1), .val (.int (43 : Int32))] [(.int ((7 : Int32) * (W 38 - (48 : Int32)))), (.int ((((((2 : Int32) * (W 43 - (48 : Int32))) + ((3 : Int32) * (W 42 - (48 : Int32)))) + ((4 : Int32) * (W 41 - (48 : Int32)))) + ((5 : Int32) * (W 40 - (48 : Int32)))) + ((6 : Int32) * (W 39 - (48 : Int32)))))])
  refine own_go (fun t k => XS.iadd X6.here hx rfl (hb hby d3_58) rfl k) ?_
  show own_G p e below _ T6 (mkF m 59 #[.val (.ref a1), .val (.int (43 : Int32))] [(.int (((((((2 : Int32) * (W 43 - (48 : Int32))) + ((3 : Int32) * (W 42 - (48 : Int32)))) + ((4 : Int32) * (W 41 - (48 : Int32)))) + ((5 : Int32) * (W 40 - (48 : Int32)))) + ((6 : Int32) * (W 39 - (48 : Int32)))) + ((7 : Int32) * (W 38 - (48 : Int32)))))])
  refine own_go (fun t k => XS.bipush X6.here hx rfl (hb hby d3_59) k) ?_
  show own_G p e below _ T6 (mkF m 61 #[.val (.ref a1), .val (.int (43 : Int32))] [(.int (8 : Int32)), (.int (((((((2 : Int32) * (W 43 - (48 : Int32))) + ((3 : Int32) * (W 42 - (48 : Int32)))) + ((4 : Int32) * (W 41 - (48 : Int32)))) + ((5 : Int32) * (W 40 - (48 : Int32)))) + ((6 : Int32) * (W 39 - (48 : Int32)))) + ((7 : Int32) * (W 38 - (48 : Int32)))))])
  refine own_go (fun t k => XS.aloadN X6.here hx rfl (hb hby d3_61) rfl rfl k) ?_
  show own_G p e below _ T6 (mkF m 62 #[.val (.ref a1), .val (.int (43 : Int32))] [(.ref a1), (.int (8 : Int32)), (.int (((((((2 : Int32) * (W 43 - (48 : Int32))) + ((3 : Int32) * (W 42 - (48 : Int32)))) + ((4 : Int32) * (W 41 - (48 : Int32)))) + ((5 : Int32) * (W 40 - (48 : Int32)))) + ((6 : Int32) * (W 39 - (48 : Int32)))) + ((7 : Int32) * (W 38 - (48 : Int32)))))])
  refine own_go (fun t k => XS.iloadN X6.here hx rfl (hb hby d3_62) rfl k) ?_
  show own_G p e below _ T6 (mkF m 63 #[.val (.ref a1), .val (.int (43 : Int32))] [(.int (43 : Int32)), (.ref a1), (.int (8 : Int32)), (.int (((((((2 : Int32) * (W 43 - (48 : Int32))) + ((3 : Int32) * (W 42 - (48 : Int32)))) + ((4 : Int32) * (W 41 - (48 : Int32)))) + ((5 : Int32) * (W 40 - (48 : Int32)))) + ((6 : Int32) * (W 39 - (48 : Int32)))) + ((7 : Int32) * (W 38 - (48 : Int32)))))])
  refine own_go (fun t k => XS.bipush X6.here hx rfl (hb hby d3_63) k) ?_
  show own_G p e below _ T6 (mkF m 65 #[.val (.ref a1), .val (.int (43 : Int32))] [(.int (6 : Int32)), (.int (43 : Int32)), (.ref a1), (.int (8 : Int32)), (.int (((((((2 : Int32) * (W 43 - (48 : Int32))) + ((3 : Int32) * (W 42 - (48 : Int32)))) + ((4 : Int32) * (W 41 - (48 : Int32)))) + ((5 : Int32) * (W 40 - (48 : Int32)))) + ((6 : Int32) * (W 39 - (48 : Int32)))) + ((7 : Int32) * (W 38 - (48 : Int32)))))])
  refine own_go (fun t k => XS.isub X6.here hx rfl (hb hby d3_65) rfl k) ?_
  show own_G p e below _ T6 (mkF m 66 #[.val (.ref a1), .val (.int (43 : Int32))] [(.int (37 : Int32)), (.ref a1), (.int (8 : Int32)), (.int (((((((2 : Int32) * (W 43 - (48 : Int32))) + ((3 : Int32) * (W 42 - (48 : Int32)))) + ((4 : Int32) * (W 41 - (48 : Int32)))) + ((5 : Int32) * (W 40 - (48 : Int32)))) + ((6 : Int32) * (W 39 - (48 : Int32)))) + ((7 : Int32) * (W 38 - (48 : Int32)))))])
  obtain ⟨T7, L7, v7, X7, ⟨rfl, rfl, q7⟩, st7⟩ := own_callS X6 hx hZ (y := (⟨"com/example/compensa/compensa/CheckDigitsGeneralDigitPinLaw", "d", "([CI)I"⟩ : MethodName)) hown (hw _ (List.mem_of_getElem? (i := 13) rfl)) (hw _ (List.mem_of_getElem? (i := 14) rfl)) (hw _ (List.mem_of_getElem? (i := 3) rfl)) (hw _ (List.mem_of_getElem? (i := 15) rfl)) (by decide) (c_d l Z a0 hw a1 cl (37 : Int32) (W 37) h0 Ar (own_in hsz (by decide)) (hat 37 (by decide))) q6 (argsL := [(.ref a1), (.int (37 : Int32))]) (rest := [(.int (8 : Int32)), (.int (((((((2 : Int32) * (W 43 - (48 : Int32))) + ((3 : Int32) * (W 42 - (48 : Int32)))) + ((4 : Int32) * (W 41 - (48 : Int32)))) + ((5 : Int32) * (W 40 - (48 : Int32)))) + ((6 : Int32) * (W 39 - (48 : Int32)))) + ((7 : Int32) * (W 38 - (48 : Int32)))))]) (g := (mkF m 66 #[.val (.ref a1), .val (.int (43 : Int32))] [(.int (37 : Int32)), (.ref a1), (.int (8 : Int32)), (.int (((((((2 : Int32) * (W 43 - (48 : Int32))) + ((3 : Int32) * (W 42 - (48 : Int32)))) + ((4 : Int32) * (W 41 - (48 : Int32)))) + ((5 : Int32) * (W 40 - (48 : Int32)))) + ((6 : Int32) * (W 39 - (48 : Int32)))) + ((7 : Int32) * (W 38 - (48 : Int32)))))])) rfl (by rw [hml]; rfl) (ps := [(.array .char), .int]) (r := (some .int)) (by decide +kernel) rfl rfl (W := 2) (by show 2 * 0 + _ ≤ _; exact Nat.le_of_eq rfl) (hb hby d3_66) (by decide) (by decide) (by decide) (by decide)
  refine own_go st7 ?_
  show own_G p e below _ T7 (mkF m 69 #[.val (.ref a1), .val (.int (43 : Int32))] [(.int (W 37 - (48 : Int32))), (.int (8 : Int32)), (.int (((((((2 : Int32) * (W 43 - (48 : Int32))) + ((3 : Int32) * (W 42 - (48 : Int32)))) + ((4 : Int32) * (W 41 - (48 : Int32)))) + ((5 : Int32) * (W 40 - (48 : Int32)))) + ((6 : Int32) * (W 39 - (48 : Int32)))) + ((7 : Int32) * (W 38 - (48 : Int32)))))])
  refine own_go (fun t k => XS.imul X7.here hx rfl (hb hby d3_69) rfl k) ?_
  show own_G p e below _ T7 (mkF m 70 #[.val (.ref a1), .val (.int (43 : Int32))] [(.int ((8 : Int32) * (W 37 - (48 : Int32)))), (.int (((((((2 : Int32) * (W 43 - (48 : Int32))) + ((3 : Int32) * (W 42 - (48 : Int32)))) + ((4 : Int32) * (W 41 - (48 : Int32)))) + ((5 : Int32) * (W 40 - (48 : Int32)))) + ((6 : Int32) * (W 39 - (48 : Int32)))) + ((7 : Int32) * (W 38 - (48 : Int32)))))])
  refine own_go (fun t k => XS.iadd X7.here hx rfl (hb hby d3_70) rfl k) ?_
  show own_G p e below _ T7 (mkF m 71 #[.val (.ref a1), .val (.int (43 : Int32))] [(.int ((((((((2 : Int32) * (W 43 - (48 : Int32))) + ((3 : Int32) * (W 42 - (48 : Int32)))) + ((4 : Int32) * (W 41 - (48 : Int32)))) + ((5 : Int32) * (W 40 - (48 : Int32)))) + ((6 : Int32) * (W 39 - (48 : Int32)))) + ((7 : Int32) * (W 38 - (48 : Int32)))) + ((8 : Int32) * (W 37 - (48 : Int32)))))])
  exact own_retI X7 hx hlk hret (hb hby d3_71) (by decide) (by decide) ⟨rfl, rfl, q7⟩
set_option maxRecDepth 65536 in
set_option maxHeartbeats 40000000 in
theorem c_run7_35 (l : Launch) (Z : State) (a0 : Array Value) (hw : ∀ d ∈ tables_1, d.before a0 Z = true) (a1 : Addr) (cl : Cell) (W : Nat → Int32) (h0 : Heap) (Ar : Arr Z h0 a1 cl .char) (hsz : cl.slots.size = 44) (hat : ∀ i, i < 44 → cl.slots[i]? = some (.int (W i))) :
    own_M l Z (⟨"com/example/compensa/compensa/CheckDigitsGeneralDigitPinLaw", "run7", "([CI)I"⟩ : MethodName) method_4_code 2 (some .int) ⟨1, 0, 0, 30⟩ #[.ref a1, .int (35 : Int32)] h0 (fun v h L => v = some (.int (own_r7 W 35)) ∧ L = [] ∧ h = h0) := by
  refine own_body pn_3 ?_
  intro p e s m below meth c T0 hx hby hml hlk hown hret hnm hZ X0 e0
  replace hown : s.vm.findClass "com/example/compensa/compensa/CheckDigitsGeneralDigitPinLaw" = some m.cls := hown
  replace hml : c.maxLocals = 2 := hml
  have ef : entryFrame m #[.ref a1, .int (35 : Int32)] 2 = (mkF m 0 #[.val (.ref a1), .val (.int (35 : Int32))] []) := by first | (simp [entryFrame, mkF, argsToLocals, Value.category]; done) | rfl
  rw [ef]
  refine own_go (fun t k => XS.iconst X0.here hx rfl (hb hby d3_0) k) ?_
  show own_G p e below _ T0 (mkF m 1 #[.val (.ref a1), .val (.int (35 : Int32))] [(.int (2 : Int32))])
  refine own_go (fun t k => XS.aloadN X0.here hx rfl (hb hby d3_1) rfl rfl k) ?_
  show own_G p e below _ T0 (mkF m 2 #[.val (.ref a1), .val (.int (35 : Int32))] [(.ref a1), (.int (2 : Int32))])
  refine own_go (fun t k => XS.iloadN X0.here hx rfl (hb hby d3_2) rfl k) ?_
  show own_G p e below _ T0 (mkF m 3 #[.val (.ref a1), .val (.int (35 : Int32))] [(.int (35 : Int32)), (.ref a1), (.int (2 : Int32))])
  obtain ⟨T1, L1, v1, X1, ⟨rfl, rfl, q1⟩, st1⟩ := own_callS X0 hx hZ (y := (⟨"com/example/compensa/compensa/CheckDigitsGeneralDigitPinLaw", "d", "([CI)I"⟩ : MethodName)) hown (hw _ (List.mem_of_getElem? (i := 13) rfl)) (hw _ (List.mem_of_getElem? (i := 14) rfl)) (hw _ (List.mem_of_getElem? (i := 3) rfl)) (hw _ (List.mem_of_getElem? (i := 15) rfl)) (by decide) (c_d l Z a0 hw a1 cl (35 : Int32) (W 35) h0 Ar (own_in hsz (by decide)) (hat 35 (by decide))) e0 (argsL := [(.ref a1), (.int (35 : Int32))]) (rest := [(.int (2 : Int32))]) (g := (mkF m 3 #[.val (.ref a1), .val (.int (35 : Int32))] [(.int (35 : Int32)), (.ref a1), (.int (2 : Int32))])) rfl (by rw [hml]; rfl) (ps := [(.array .char), .int]) (r := (some .int)) (by decide +kernel) rfl rfl (W := 1) (by show 2 * 0 + _ ≤ _; exact Nat.le_of_eq rfl) (hb hby d3_3) (by decide) (by decide) (by decide) (by decide)
  refine own_go st1 ?_
  show own_G p e below _ T1 (mkF m 6 #[.val (.ref a1), .val (.int (35 : Int32))] [(.int (W 35 - (48 : Int32))), (.int (2 : Int32))])
  refine own_go (fun t k => XS.imul X1.here hx rfl (hb hby d3_6) rfl k) ?_
  show own_G p e below _ T1 (mkF m 7 #[.val (.ref a1), .val (.int (35 : Int32))] [(.int ((2 : Int32) * (W 35 - (48 : Int32))))])
  refine own_go (fun t k => XS.iconst X1.here hx rfl (hb hby d3_7) k) ?_
  show own_G p e below _ T1 (mkF m 8 #[.val (.ref a1), .val (.int (35 : Int32))] [(.int (3 : Int32)), (.int ((2 : Int32) * (W 35 - (48 : Int32))))])
  refine own_go (fun t k => XS.aloadN X1.here hx rfl (hb hby d3_8) rfl rfl k) ?_
  show own_G p e below _ T1 (mkF m 9 #[.val (.ref a1), .val (.int (35 : Int32))] [(.ref a1), (.int (3 : Int32)), (.int ((2 : Int32) * (W 35 - (48 : Int32))))])
  refine own_go (fun t k => XS.iloadN X1.here hx rfl (hb hby d3_9) rfl k) ?_
  show own_G p e below _ T1 (mkF m 10 #[.val (.ref a1), .val (.int (35 : Int32))] [(.int (35 : Int32)), (.ref a1), (.int (3 : Int32)), (.int ((2 : Int32) * (W 35 - (48 : Int32))))])
  refine own_go (fun t k => XS.iconst X1.here hx rfl (hb hby d3_10) k) ?_
  show own_G p e below _ T1 (mkF m 11 #[.val (.ref a1), .val (.int (35 : Int32))] [(.int (1 : Int32)), (.int (35 : Int32)), (.ref a1), (.int (3 : Int32)), (.int ((2 : Int32) * (W 35 - (48 : Int32))))])
  refine own_go (fun t k => XS.isub X1.here hx rfl (hb hby d3_11) rfl k) ?_
  show own_G p e below _ T1 (mkF m 12 #[.val (.ref a1), .val (.int (35 : Int32))] [(.int (34 : Int32)), (.ref a1), (.int (3 : Int32)), (.int ((2 : Int32) * (W 35 - (48 : Int32))))])
  obtain ⟨T2, L2, v2, X2, ⟨rfl, rfl, q2⟩, st2⟩ := own_callS X1 hx hZ (y := (⟨"com/example/compensa/compensa/CheckDigitsGeneralDigitPinLaw", "d", "([CI)I"⟩ : MethodName)) hown (hw _ (List.mem_of_getElem? (i := 13) rfl)) (hw _ (List.mem_of_getElem? (i := 14) rfl)) (hw _ (List.mem_of_getElem? (i := 3) rfl)) (hw _ (List.mem_of_getElem? (i := 15) rfl)) (by decide) (c_d l Z a0 hw a1 cl (34 : Int32) (W 34) h0 Ar (own_in hsz (by decide)) (hat 34 (by decide))) q1 (argsL := [(.ref a1), (.int (34 : Int32))]) (rest := [(.int (3 : Int32)), (.int ((2 : Int32) * (W 35 - (48 : Int32))))]) (g := (mkF m 12 #[.val (.ref a1), .val (.int (35 : Int32))] [(.int (34 : Int32)), (.ref a1), (.int (3 : Int32)), (.int ((2 : Int32) * (W 35 - (48 : Int32))))])) rfl (by rw [hml]; rfl) (ps := [(.array .char), .int]) (r := (some .int)) (by decide +kernel) rfl rfl (W := 2) (by show 2 * 0 + _ ≤ _; exact Nat.le_of_eq rfl) (hb hby d3_12) (by decide) (by decide) (by decide) (by decide)
  refine own_go st2 ?_
  show own_G p e below _ T2 (mkF m 15 #[.val (.ref a1), .val (.int (35 : Int32))] [(.int (W 34 - (48 : Int32))), (.int (3 : Int32)), (.int ((2 : Int32) * (W 35 - (48 : Int32))))])
  refine own_go (fun t k => XS.imul X2.here hx rfl (hb hby d3_15) rfl k) ?_
  show own_G p e below _ T2 (mkF m 16 #[.val (.ref a1), .val (.int (35 : Int32))] [(.int ((3 : Int32) * (W 34 - (48 : Int32)))), (.int ((2 : Int32) * (W 35 - (48 : Int32))))])
  refine own_go (fun t k => XS.iadd X2.here hx rfl (hb hby d3_16) rfl k) ?_
  show own_G p e below _ T2 (mkF m 17 #[.val (.ref a1), .val (.int (35 : Int32))] [(.int (((2 : Int32) * (W 35 - (48 : Int32))) + ((3 : Int32) * (W 34 - (48 : Int32)))))])
  refine own_go (fun t k => XS.iconst X2.here hx rfl (hb hby d3_17) k) ?_
  show own_G p e below _ T2 (mkF m 18 #[.val (.ref a1), .val (.int (35 : Int32))] [(.int (4 : Int32)), (.int (((2 : Int32) * (W 35 - (48 : Int32))) + ((3 : Int32) * (W 34 - (48 : Int32)))))])
  refine own_go (fun t k => XS.aloadN X2.here hx rfl (hb hby d3_18) rfl rfl k) ?_
  show own_G p e below _ T2 (mkF m 19 #[.val (.ref a1), .val (.int (35 : Int32))] [(.ref a1), (.int (4 : Int32)), (.int (((2 : Int32) * (W 35 - (48 : Int32))) + ((3 : Int32) * (W 34 - (48 : Int32)))))])
  refine own_go (fun t k => XS.iloadN X2.here hx rfl (hb hby d3_19) rfl k) ?_
  show own_G p e below _ T2 (mkF m 20 #[.val (.ref a1), .val (.int (35 : Int32))] [(.int (35 : Int32)), (.ref a1), (.int (4 : Int32)), (.int (((2 : Int32) * (W 35 - (48 : Int32))) + ((3 : Int32) * (W 34 - (48 : Int32)))))])
  refine own_go (fun t k => XS.iconst X2.here hx rfl (hb hby d3_20) k) ?_
  show own_G p e below _ T2 (mkF m 21 #[.val (.ref a1), .val (.int (35 : Int32))] [(.int (2 : Int32)), (.int (35 : Int32)), (.ref a1), (.int (4 : Int32)), (.int (((2 : Int32) * (W 35 - (48 : Int32))) + ((3 : Int32) * (W 34 - (48 : Int32)))))])
  refine own_go (fun t k => XS.isub X2.here hx rfl (hb hby d3_21) rfl k) ?_
  show own_G p e below _ T2 (mkF m 22 #[.val (.ref a1), .val (.int (35 : Int32))] [(.int (33 : Int32)), (.ref a1), (.int (4 : Int32)), (.int (((2 : Int32) * (W 35 - (48 : Int32))) + ((3 : Int32) * (W 34 - (48 : Int32)))))])
  obtain ⟨T3, L3, v3, X3, ⟨rfl, rfl, q3⟩, st3⟩ := own_callS X2 hx hZ (y := (⟨"com/example/compensa/compensa/CheckDigitsGeneralDigitPinLaw", "d", "([CI)I"⟩ : MethodName)) hown (hw _ (List.mem_of_getElem? (i := 13) rfl)) (hw _ (List.mem_of_getElem? (i := 14) rfl)) (hw _ (List.mem_of_getElem? (i := 3) rfl)) (hw _ (List.mem_of_getElem? (i := 15) rfl)) (by decide) (c_d l Z a0 hw a1 cl (33 : Int32) (W 33) h0 Ar (own_in hsz (by decide)) (hat 33 (by decide))) q2 (argsL := [(.ref a1), (.int (33 : Int32))]) (rest := [(.int (4 : Int32)), (.int (((2 : Int32) * (W 35 - (48 : Int32))) + ((3 : Int32) * (W 34 - (48 : Int32)))))]) (g := (mkF m 22 #[.val (.ref a1), .val (.int (35 : Int32))] [(.int (33 : Int32)), (.ref a1), (.int (4 : Int32)), (.int (((2 : Int32) * (W 35 - (48 : Int32))) + ((3 : Int32) * (W 34 - (48 : Int32)))))])) rfl (by rw [hml]; rfl) (ps := [(.array .char), .int]) (r := (some .int)) (by decide +kernel) rfl rfl (W := 2) (by show 2 * 0 + _ ≤ _; exact Nat.le_of_eq rfl) (hb hby d3_22) (by decide) (by decide) (by decide) (by decide)
  refine own_go st3 ?_
  show own_G p e below _ T3 (mkF m 25 #[.val (.ref a1), .val (.int (35 : Int32))] [(.int (W 33 - (48 : Int32))), (.int (4 : Int32)), (.int (((2 : Int32) * (W 35 - (48 : Int32))) + ((3 : Int32) * (W 34 - (48 : Int32)))))])
  refine own_go (fun t k => XS.imul X3.here hx rfl (hb hby d3_25) rfl k) ?_
  show own_G p e below _ T3 (mkF m 26 #[.val (.ref a1), .val (.int (35 : Int32))] [(.int ((4 : Int32) * (W 33 - (48 : Int32)))), (.int (((2 : Int32) * (W 35 - (48 : Int32))) + ((3 : Int32) * (W 34 - (48 : Int32)))))])
  refine own_go (fun t k => XS.iadd X3.here hx rfl (hb hby d3_26) rfl k) ?_
  show own_G p e below _ T3 (mkF m 27 #[.val (.ref a1), .val (.int (35 : Int32))] [(.int ((((2 : Int32) * (W 35 - (48 : Int32))) + ((3 : Int32) * (W 34 - (48 : Int32)))) + ((4 : Int32) * (W 33 - (48 : Int32)))))])
  refine own_go (fun t k => XS.iconst X3.here hx rfl (hb hby d3_27) k) ?_
  show own_G p e below _ T3 (mkF m 28 #[.val (.ref a1), .val (.int (35 : Int32))] [(.int (5 : Int32)), (.int ((((2 : Int32) * (W 35 - (48 : Int32))) + ((3 : Int32) * (W 34 - (48 : Int32)))) + ((4 : Int32) * (W 33 - (48 : Int32)))))])
  refine own_go (fun t k => XS.aloadN X3.here hx rfl (hb hby d3_28) rfl rfl k) ?_
  show own_G p e below _ T3 (mkF m 29 #[.val (.ref a1), .val (.int (35 : Int32))] [(.ref a1), (.int (5 : Int32)), (.int ((((2 : Int32) * (W 35 - (48 : Int32))) + ((3 : Int32) * (W 34 - (48 : Int32)))) + ((4 : Int32) * (W 33 - (48 : Int32)))))])
  refine own_go (fun t k => XS.iloadN X3.here hx rfl (hb hby d3_29) rfl k) ?_
  show own_G p e below _ T3 (mkF m 30 #[.val (.ref a1), .val (.int (35 : Int32))] [(.int (35 : Int32)), (.ref a1), (.int (5 : Int32)), (.int ((((2 : Int32) * (W 35 - (48 : Int32))) + ((3 : Int32) * (W 34 - (48 : Int32)))) + ((4 : Int32) * (W 33 - (48 : Int32)))))])
  refine own_go (fun t k => XS.iconst X3.here hx rfl (hb hby d3_30) k) ?_
  show own_G p e below _ T3 (mkF m 31 #[.val (.ref a1), .val (.int (35 : Int32))] [(.int (3 : Int32)), (.int (35 : Int32)), (.ref a1), (.int (5 : Int32)), (.int ((((2 : Int32) * (W 35 - (48 : Int32))) + ((3 : Int32) * (W 34 - (48 : Int32)))) + ((4 : Int32) * (W 33 - (48 : Int32)))))])
  refine own_go (fun t k => XS.isub X3.here hx rfl (hb hby d3_31) rfl k) ?_
  show own_G p e below _ T3 (mkF m 32 #[.val (.ref a1), .val (.int (35 : Int32))] [(.int (32 : Int32)), (.ref a1), (.int (5 : Int32)), (.int ((((2 : Int32) * (W 35 - (48 : Int32))) + ((3 : Int32) * (W 34 - (48 : Int32)))) + ((4 : Int32) * (W 33 - (48 : Int32)))))])
  obtain ⟨T4, L4, v4, X4, ⟨rfl, rfl, q4⟩, st4⟩ := own_callS X3 hx hZ (y := (⟨"com/example/compensa/compensa/CheckDigitsGeneralDigitPinLaw", "d", "([CI)I"⟩ : MethodName)) hown (hw _ (List.mem_of_getElem? (i := 13) rfl)) (hw _ (List.mem_of_getElem? (i := 14) rfl)) (hw _ (List.mem_of_getElem? (i := 3) rfl)) (hw _ (List.mem_of_getElem? (i := 15) rfl)) (by decide) (c_d l Z a0 hw a1 cl (32 : Int32) (W 32) h0 Ar (own_in hsz (by decide)) (hat 32 (by decide))) q3 (argsL := [(.ref a1), (.int (32 : Int32))]) (rest := [(.int (5 : Int32)), (.int ((((2 : Int32) * (W 35 - (48 : Int32))) + ((3 : Int32) * (W 34 - (48 : Int32)))) + ((4 : Int32) * (W 33 - (48 : Int32)))))]) (g := (mkF m 32 #[.val (.ref a1), .val (.int (35 : Int32))] [(.int (32 : Int32)), (.ref a1), (.int (5 : Int32)), (.int ((((2 : Int32) * (W 35 - (48 : Int32))) + ((3 : Int32) * (W 34 - (48 : Int32)))) + ((4 : Int32) * (W 33 - (48 : Int32)))))])) rfl (by rw [hml]; rfl) (ps := [(.array .char), .int]) (r := (some .int)) (by decide +kernel) rfl rfl (W := 2) (by show 2 * 0 + _ ≤ _; exact Nat.le_of_eq rfl) (hb hby d3_32) (by decide) (by decide) (by decide) (by decide)
  refine own_go st4 ?_
  show own_G p e below _ T4 (mkF m 35 #[.val (.ref a1), .val (.int (35 : Int32))] [(.int (W 32 - (48 : Int32))), (.int (5 : Int32)), (.int ((((2 : Int32) * (W 35 - (48 : Int32))) + ((3 : Int32) * (W 34 - (48 : Int32)))) + ((4 : Int32) * (W 33 - (48 : Int32)))))])
  refine own_go (fun t k => XS.imul X4.here hx rfl (hb hby d3_35) rfl k) ?_
  show own_G p e below _ T4 (mkF m 36 #[.val (.ref a1), .val (.int (35 : Int32))] [(.int ((5 : Int32) * (W 32 - (48 : Int32)))), (.int ((((2 : Int32) * (W 35 - (48 : Int32))) + ((3 : Int32) * (W 34 - (48 : Int32)))) + ((4 : Int32) * (W 33 - (48 : Int32)))))])
  refine own_go (fun t k => XS.iadd X4.here hx rfl (hb hby d3_36) rfl k) ?_
  show own_G p e below _ T4 (mkF m 37 #[.val (.ref a1), .val (.int (35 : Int32))] [(.int (((((2 : Int32) * (W 35 - (48 : Int32))) + ((3 : Int32) * (W 34 - (48 : Int32)))) + ((4 : Int32) * (W 33 - (48 : Int32)))) + ((5 : Int32) * (W 32 - (48 : Int32)))))])
  refine own_go (fun t k => XS.bipush X4.here hx rfl (hb hby d3_37) k) ?_
  show own_G p e below _ T4 (mkF m 39 #[.val (.ref a1), .val (.int (35 : Int32))] [(.int (6 : Int32)), (.int (((((2 : Int32) * (W 35 - (48 : Int32))) + ((3 : Int32) * (W 34 - (48 : Int32)))) + ((4 : Int32) * (W 33 - (48 : Int32)))) + ((5 : Int32) * (W 32 - (48 : Int32)))))])
  refine own_go (fun t k => XS.aloadN X4.here hx rfl (hb hby d3_39) rfl rfl k) ?_
  show own_G p e below _ T4 (mkF m 40 #[.val (.ref a1), .val (.int (35 : Int32))] [(.ref a1), (.int (6 : Int32)), (.int (((((2 : Int32) * (W 35 - (48 : Int32))) + ((3 : Int32) * (W 34 - (48 : Int32)))) + ((4 : Int32) * (W 33 - (48 : Int32)))) + ((5 : Int32) * (W 32 - (48 : Int32)))))])
  refine own_go (fun t k => XS.iloadN X4.here hx rfl (hb hby d3_40) rfl k) ?_
  show own_G p e below _ T4 (mkF m 41 #[.val (.ref a1), .val (.int (35 : Int32))] [(.int (35 : Int32)), (.ref a1), (.int (6 : Int32)), (.int (((((2 : Int32) * (W 35 - (48 : Int32))) + ((3 : Int32) * (W 34 - (48 : Int32)))) + ((4 : Int32) * (W 33 - (48 : Int32)))) + ((5 : Int32) * (W 32 - (48 : Int32)))))])
  refine own_go (fun t k => XS.iconst X4.here hx rfl (hb hby d3_41) k) ?_
  show own_G p e below _ T4 (mkF m 42 #[.val (.ref a1), .val (.int (35 : Int32))] [(.int (4 : Int32)), (.int (35 : Int32)), (.ref a1), (.int (6 : Int32)), (.int (((((2 : Int32) * (W 35 - (48 : Int32))) + ((3 : Int32) * (W 34 - (48 : Int32)))) + ((4 : Int32) * (W 33 - (48 : Int32)))) + ((5 : Int32) * (W 32 - (48 : Int32)))))])
  refine own_go (fun t k => XS.isub X4.here hx rfl (hb hby d3_42) rfl k) ?_
  show own_G p e below _ T4 (mkF m 43 #[.val (.ref a1), .val (.int (35 : Int32))] [(.int (31 : Int32)), (.ref a1), (.int (6 : Int32)), (.int (((((2 : Int32) * (W 35 - (48 : Int32))) + ((3 : Int32) * (W 34 - (48 : Int32)))) + ((4 : Int32) * (W 33 - (48 : Int32)))) + ((5 : Int32) * (W 32 - (48 : Int32)))))])
  obtain ⟨T5, L5, v5, X5, ⟨rfl, rfl, q5⟩, st5⟩ := own_callS X4 hx hZ (y := (⟨"com/example/compensa/compensa/CheckDigitsGeneralDigitPinLaw", "d", "([CI)I"⟩ : MethodName)) hown (hw _ (List.mem_of_getElem? (i := 13) rfl)) (hw _ (List.mem_of_getElem? (i := 14) rfl)) (hw _ (List.mem_of_getElem? (i := 3) rfl)) (hw _ (List.mem_of_getElem? (i := 15) rfl)) (by decide) (c_d l Z a0 hw a1 cl (31 : Int32) (W 31) h0 Ar (own_in hsz (by decide)) (hat 31 (by decide))) q4 (argsL := [(.ref a1), (.int (31 : Int32))]) (rest := [(.int (6 : Int32)), (.int (((((2 : Int32) * (W 35 - (48 : Int32))) + ((3 : Int32) * (W 34 - (48 : Int32)))) + ((4 : Int32) * (W 33 - (48 : Int32)))) + ((5 : Int32) * (W 32 - (48 : Int32)))))]) (g := (mkF m 43 #[.val (.ref a1), .val (.int (35 : Int32))] [(.int (31 : Int32)), (.ref a1), (.int (6 : Int32)), (.int (((((2 : Int32) * (W 35 - (48 : Int32))) + ((3 : Int32) * (W 34 - (48 : Int32)))) + ((4 : Int32) * (W 33 - (48 : Int32)))) + ((5 : Int32) * (W 32 - (48 : Int32)))))])) rfl (by rw [hml]; rfl) (ps := [(.array .char), .int]) (r := (some .int)) (by decide +kernel) rfl rfl (W := 2) (by show 2 * 0 + _ ≤ _; exact Nat.le_of_eq rfl) (hb hby d3_43) (by decide) (by decide) (by decide) (by decide)
  refine own_go st5 ?_
  show own_G p e below _ T5 (mkF m 46 #[.val (.ref a1), .val (.int (35 : Int32))] [(.int (W 31 - (48 : Int32))), (.int (6 : Int32)), (.int (((((2 : Int32) * (W 35 - (48 : Int32))) + ((3 : Int32) * (W 34 - (48 : Int32)))) + ((4 : Int32) * (W 33 - (48 : Int32)))) + ((5 : Int32) * (W 32 - (48 : Int32)))))])
  refine own_go (fun t k => XS.imul X5.here hx rfl (hb hby d3_46) rfl k) ?_
  show own_G p e below _ T5 (mkF m 47 #[.val (.ref a1), .val (.int (35 : Int32))] [(.int ((6 : Int32) * (W 31 - (48 : Int32)))), (.int (((((2 : Int32) * (W 35 - (48 : Int32))) + ((3 : Int32) * (W 34 - (48 : Int32)))) + ((4 : Int32) * (W 33 - (48 : Int32)))) + ((5 : Int32) * (W 32 - (48 : Int32)))))])
  refine own_go (fun t k => XS.iadd X5.here hx rfl (hb hby d3_47) rfl k) ?_
  show own_G p e below _ T5 (mkF m 48 #[.val (.ref a1), .val (.int (35 : Int32))] [(.int ((((((2 : Int32) * (W 35 - (48 : Int32))) + ((3 : Int32) * (W 34 - (48 : Int32)))) + ((4 : Int32) * (W 33 - (48 : Int32)))) + ((5 : Int32) * (W 32 - (48 : Int32)))) + ((6 : Int32) * (W 31 - (48 : Int32)))))])
  refine own_go (fun t k => XS.bipush X5.here hx rfl (hb hby d3_48) k) ?_
  show own_G p e below _ T5 (mkF m 50 #[.val (.ref a1), .val (.int (35 : Int32))] [(.int (7 : Int32)), (.int ((((((2 : Int32) * (W 35 - (48 : Int32))) + ((3 : Int32) * (W 34 - (48 : Int32)))) + ((4 : Int32) * (W 33 - (48 : Int32)))) + ((5 : Int32) * (W 32 - (48 : Int32)))) + ((6 : Int32) * (W 31 - (48 : Int32)))))])
  refine own_go (fun t k => XS.aloadN X5.here hx rfl (hb hby d3_50) rfl rfl k) ?_
  show own_G p e below _ T5 (mkF m 51 #[.val (.ref a1), .val (.int (35 : Int32))] [(.ref a1), (.int (7 : Int32)), (.int ((((((2 : Int32) * (W 35 - (48 : Int32))) + ((3 : Int32) * (W 34 - (48 : Int32)))) + ((4 : Int32) * (W 33 - (48 : Int32)))) + ((5 : Int32) * (W 32 - (48 : Int32)))) + ((6 : Int32) * (W 31 - (48 : Int32)))))])
  refine own_go (fun t k => XS.iloadN X5.here hx rfl (hb hby d3_51) rfl k) ?_
  show own_G p e below _ T5 (mkF m 52 #[.val (.ref a1), .val (.int (35 : Int32))] [(.int (35 : Int32)), (.ref a1), (.int (7 : Int32)), (.int ((((((2 : Int32) * (W 35 - (48 : Int32))) + ((3 : Int32) * (W 34 - (48 : Int32)))) + ((4 : Int32) * (W 33 - (48 : Int32)))) + ((5 : Int32) * (W 32 - (48 : Int32)))) + ((6 : Int32) * (W 31 - (48 : Int32)))))])
  refine own_go (fun t k => XS.iconst X5.here hx rfl (hb hby d3_52) k) ?_
  show own_G p e below _ T5 (mkF m 53 #[.val (.ref a1), .val (.int (35 : Int32))] [(.int (5 : Int32)), (.int (35 : Int32)), (.ref a1), (.int (7 : Int32)), (.int ((((((2 : Int32) * (W 35 - (48 : Int32))) + ((3 : Int32) * (W 34 - (48 : Int32)))) + ((4 : Int32) * (W 33 - (48 : Int32)))) + ((5 : Int32) * (W 32 - (48 : Int32)))) + ((6 : Int32) * (W 31 - (48 : Int32)))))])
  refine own_go (fun t k => XS.isub X5.here hx rfl (hb hby d3_53) rfl k) ?_
  show own_G p e below _ T5 (mkF m 54 #[.val (.ref a1), .val (.int (35 : Int32))] [(.int (30 : Int32)), (.ref a1), (.int (7 : Int32)), (.int ((((((2 : Int32) * (W 35 - (48 : Int32))) + ((3 : Int32) * (W 34 - (48 : Int32)))) + ((4 : Int32) * (W 33 - (48 : Int32)))) + ((5 : Int32) * (W 32 - (48 : Int32)))) + ((6 : Int32) * (W 31 - (48 : Int32)))))])
  obtain ⟨T6, L6, v6, X6, ⟨rfl, rfl, q6⟩, st6⟩ := own_callS X5 hx hZ (y := (⟨"com/example/compensa/compensa/CheckDigitsGeneralDigitPinLaw", "d", "([CI)I"⟩ : MethodName)) hown (hw _ (List.mem_of_getElem? (i := 13) rfl)) (hw _ (List.mem_of_getElem? (i := 14) rfl)) (hw _ (List.mem_of_getElem? (i := 3) rfl)) (hw _ (List.mem_of_getElem? (i := 15) rfl)) (by decide) (c_d l Z a0 hw a1 cl (30 : Int32) (W 30) h0 Ar (own_in hsz (by decide)) (hat 30 (by decide))) q5 (argsL := [(.ref a1), (.int (30 : Int32))]) (rest := [(.int (7 : Int32)), (.int ((((((2 : Int32) * (W 35 - (48 : Int32))) + ((3 : Int32) * (W 34 - (48 : Int32)))) + ((4 : Int32) * (W 33 - (48 : Int32)))) + ((5 : Int32) * (W 32 - (48 : Int32)))) + ((6 : Int32) * (W 31 - (48 : Int32)))))]) (g := (mkF m 54 #[.val (.ref a1), .val (.int (35 : Int32))] [(.int (30 : Int32)), (.ref a1), (.int (7 : Int32)), (.int ((((((2 : Int32) * (W 35 - (48 : Int32))) + ((3 : Int32) * (W 34 - (48 : Int32)))) + ((4 : Int32) * (W 33 - (48 : Int32)))) + ((5 : Int32) * (W 32 - (48 : Int32)))) + ((6 : Int32) * (W 31 - (48 : Int32)))))])) rfl (by rw [hml]; rfl) (ps := [(.array .char), .int]) (r := (some .int)) (by decide +kernel) rfl rfl (W := 2) (by show 2 * 0 + _ ≤ _; exact Nat.le_of_eq rfl) (hb hby d3_54) (by decide) (by decide) (by decide) (by decide)
  refine own_go st6 ?_
  show own_G p e below _ T6 (mkF m 57 #[.val (.ref a1), .val (.int (35 : Int32))] [(.int (W 30 - (48 : Int32))), (.int (7 : Int32)), (.int ((((((2 : Int32) * (W 35 - (48 : Int32))) + ((3 : Int32) * (W 34 - (48 : Int32)))) + ((4 : Int32) * (W 33 - (48 : Int32)))) + ((5 : Int32) * (W 32 - (48 : Int32)))) + ((6 : Int32) * (W 31 - (48 : Int32)))))])
  refine own_go (fun t k => XS.imul X6.here hx rfl (hb hby d3_57) rfl k) ?_
  show own_G p e below _ T6 (mkF m 58 #[.val (.ref a1), .val (.int (35 : Int32))] [(.int ((7 : Int32) * (W 30 - (48 : Int32)))), (.int ((((((2 : Int32) * (W 35 - (48 : Int32))) + ((3 : Int32) * (W 34 - (48 : Int32)))) + ((4 : Int32) * (W 33 - (48 : Int32)))) + ((5 : Int32) * (W 32 - (48 : Int32)))) + ((6 : Int32) * (W 31 - (48 : Int32)))))])
  refine own_go (fun t k => XS.iadd X6.here hx rfl (hb hby d3_58) rfl k) ?_
  show own_G p e below _ T6 (mkF m 59 #[.val (.ref a1), .val (.int (35 : Int32))] [(.int (((((((2 : Int32) * (W 35 - (48 : Int32))) + ((3 : Int32) * (W 34 - (48 : Int32)))) + ((4 : Int32) * (W 33 - (48 : Int32)))) + ((5 : Int32) * (W 32 - (48 : Int32)))) + ((6 : Int32) * (W 31 - (48 : Int32)))) + ((7 : Int32) * (W 30 - (48 : Int32)))))])
  refine own_go (fun t k => XS.bipush X6.here hx rfl (hb hby d3_59) k) ?_
  show own_G p e below _ T6 (mkF m 61 #[.val (.ref a1), .val (.int (35 : Int32))] [(.int (8 : Int32)), (.int (((((((2 : Int32) * (W 35 - (48 : Int32))) + ((3 : Int32) * (W 34 - (48 : Int32)))) + ((4 : Int32) * (W 33 - (48 : Int32)))) + ((5 : Int32) * (W 32 - (48 : Int32)))) + ((6 : Int32) * (W 31 - (48 : Int32)))) + ((7 : Int32) * (W 30 - (48 : Int32)))))])
  refine own_go (fun t k => XS.aloadN X6.here hx rfl (hb hby d3_61) rfl rfl k) ?_
  show own_G p e below _ T6 (mkF m 62 #[.val (.ref a1), .val (.int (35 : Int32))] [(.ref a1), (.int (8 : Int32)), (.int (((((((2 : Int32) * (W 35 - (48 : Int32))) + ((3 : Int32) * (W 34 - (48 : Int32)))) + ((4 : Int32) * (W 33 - (48 : Int32)))) + ((5 : Int32) * (W 32 - (48 : Int32)))) + ((6 : Int32) * (W 31 - (48 : Int32)))) + ((7 : Int32) * (W 30 - (48 : Int32)))))])
  refine own_go (fun t k => XS.iloadN X6.here hx rfl (hb hby d3_62) rfl k) ?_
  show own_G p e below _ T6 (mkF m 63 #[.val (.ref a1), .val (.int (35 : Int32))] [(.int (35 : Int32)), (.ref a1), (.int (8 : Int32)), (.int (((((((2 : Int32) * (W 35 - (48 : Int32))) + ((3 : Int32) * (W 34 - (48 : Int32)))) + ((4 : Int32) * (W 33 - (48 : Int32)))) + ((5 : Int32) * (W 32 - (48 : Int32)))) + ((6 : Int32) * (W 31 - (48 : Int32)))) + ((7 : Int32) * (W 30 - (48 : Int32)))))])
  refine own_go (fun t k => XS.bipush X6.here hx rfl (hb hby d3_63) k) ?_
  show own_G p e below _ T6 (mkF m 65 #[.val (.ref a1), .val (.int (35 : Int32))] [(.int (6 : Int32)), (.int (35 : Int32)), (.ref a1), (.int (8 : Int32)), (.int (((((((2 : Int32) * (W 35 - (48 : Int32))) + ((3 : Int32) * (W 34 - (48 : Int32)))) + ((4 : Int32) * (W 33 - (48 : Int32)))) + ((5 : Int32) * (W 32 - (48 : Int32)))) + ((6 : Int32) * (W 31 - (48 : Int32)))) + ((7 : Int32) * (W 30 - (48 : Int32)))))])
  refine own_go (fun t k => XS.isub X6.here hx rfl (hb hby d3_65) rfl k) ?_
  show own_G p e below _ T6 (mkF m 66 #[.val (.ref a1), .val (.int (35 : Int32))] [(.int (29 : Int32)), (.ref a1), (.int (8 : Int32)), (.int (((((((2 : Int32) * (W 35 - (48 : Int32))) + ((3 : Int32) * (W 34 - (48 : Int32)))) + ((4 : Int32) * (W 33 - (48 : Int32)))) + ((5 : Int32) * (W 32 - (48 : Int32)))) + ((6 : Int32) * (W 31 - (48 : Int32)))) + ((7 : Int32) * (W 30 - (48 : Int32)))))])
  obtain ⟨T7, L7, v7, X7, ⟨rfl, rfl, q7⟩, st7⟩ := own_callS X6 hx hZ (y := (⟨"com/example/compensa/compensa/CheckDigitsGeneralDigitPinLaw", "d", "([CI)I"⟩ : MethodName)) hown (hw _ (List.mem_of_getElem? (i := 13) rfl)) (hw _ (List.mem_of_getElem? (i := 14) rfl)) (hw _ (List.mem_of_getElem? (i := 3) rfl)) (hw _ (List.mem_of_getElem? (i := 15) rfl)) (by decide) (c_d l Z a0 hw a1 cl (29 : Int32) (W 29) h0 Ar (own_in hsz (by decide)) (hat 29 (by decide))) q6 (argsL := [(.ref a1), (.int (29 : Int32))]) (rest := [(.int (8 : Int32)), (.int (((((((2 : Int32) * (W 35 - (48 : Int32))) + ((3 : Int32) * (W 34 - (48 : Int32)))) + ((4 : Int32) * (W 33 - (48 : Int32)))) + ((5 : Int32) * (W 32 - (48 : Int32)))) + ((6 : Int32) * (W 31 - (48 : Int32)))) + ((7 : Int32) * (W 30 - (48 : Int32)))))]) (g := (mkF m 66 #[.val (.ref a1), .val (.int (35 : Int32))] [(.int (29 : Int32)), (.ref a1), (.int (8 : Int32)), (.int (((((((2 : Int32) * (W 35 - (48 : Int32))) + ((3 : Int32) * (W 34 - (48 : Int32)))) + ((4 : Int32) * (W 33 - (48 : Int32)))) + ((5 : Int32) * (W 32 - (48 : Int32)))) + ((6 : Int32) * (W 31 - (48 : Int32)))) + ((7 : Int32) * (W 30 - (48 : Int32)))))])) rfl (by rw [hml]; rfl) (ps := [(.array .char), .int]) (r := (some .int)) (by decide +kernel) rfl rfl (W := 2) (by show 2 * 0 + _ ≤ _; exact Nat.le_of_eq rfl) (hb hby d3_66) (by decide) (by decide) (by decide) (by decide)
  refine own_go st7 ?_
  show own_G p e below _ T7 (mkF m 69 #[.val (.ref a1), .val (.int (35 : Int32))] [(.int (W 29 - (48 : Int32))), (.int (8 : Int32)), (.int (((((((2 : Int32) * (W 35 - (48 : Int32))) + ((3 : Int32) * (W 34 - (48 : Int32)))) + ((4 : Int32) * (W 33 - (48 : Int32)))) + ((5 : Int32) * (W 32 - (48 : Int32)))) + ((6 : Int32) * (W 31 - (48 : Int32)))) + ((7 : Int32) * (W 30 - (48 : Int32)))))])
  refine own_go (fun t k => XS.imul X7.here hx rfl (hb hby d3_69) rfl k) ?_
  show own_G p e below _ T7 (mkF m 70 #[.val (.ref a1), .val (.int (35 : Int32))] [(.int ((8 : Int32) * (W 29 - (48 : Int32)))), (.int (((((((2 : Int32) * (W 35 - (48 : Int32))) + ((3 : Int32) * (W 34 - (48 : Int32)))) + ((4 : Int32) * (W 33 - (48 : Int32)))) + ((5 : Int32) * (W 32 - (48 : Int32)))) + ((6 : Int32) * (W 31 - (48 : Int32)))) + ((7 : Int32) * (W 30 - (48 : Int32)))))])
  refine own_go (fun t k => XS.iadd X7.here hx rfl (hb hby d3_70) rfl k) ?_
  show own_G p e below _ T7 (mkF m 71 #[.val (.ref a1), .val (.int (35 : Int32))] [(.int ((((((((2 : Int32) * (W 35 - (48 : Int32))) + ((3 : Int32) * (W 34 - (48 : Int32)))) + ((4 : Int32) * (W 33 - (48 : Int32)))) + ((5 : Int32) * (W 32 - (48 : Int32)))) + ((6 : Int32) * (W 31 - (48 : Int32)))) + ((7 : Int32) * (W 30 - (48 : Int32)))) + ((8 : Int32) * (W 29 - (48 : Int32)))))])
  exact own_retI X7 hx hlk hret (hb hby d3_71) (by decide) (by decide) ⟨rfl, rfl, q7⟩
set_option maxRecDepth 65536 in
set_option maxHeartbeats 40000000 in
theorem c_run7_27 (l : Launch) (Z : State) (a0 : Array Value) (hw : ∀ d ∈ tables_1, d.before a0 Z = true) (a1 : Addr) (cl : Cell) (W : Nat → Int32) (h0 : Heap) (Ar : Arr Z h0 a1 cl .char) (hsz : cl.slots.size = 44) (hat : ∀ i, i < 44 → cl.slots[i]? = some (.int (W i))) :
    own_M l Z (⟨"com/example/compensa/compensa/CheckDigitsGeneralDigitPinLaw", "run7", "([CI)I"⟩ : MethodName) method_4_code 2 (some .int) ⟨1, 0, 0, 30⟩ #[.ref a1, .int (27 : Int32)] h0 (fun v h L => v = some (.int (own_r7 W 27)) ∧ L = [] ∧ h = h0) := by
  refine own_body pn_3 ?_
  intro p e s m below meth c T0 hx hby hml hlk hown hret hnm hZ X0 e0
  replace hown : s.vm.findClass "com/example/compensa/compensa/CheckDigitsGeneralDigitPinLaw" = some m.cls := hown
  replace hml : c.maxLocals = 2 := hml
  have ef : entryFrame m #[.ref a1, .int (27 : Int32)] 2 = (mkF m 0 #[.val (.ref a1), .val (.int (27 : Int32))] []) := by first | (simp [entryFrame, mkF, argsToLocals, Value.category]; done) | rfl
  rw [ef]
  refine own_go (fun t k => XS.iconst X0.here hx rfl (hb hby d3_0) k) ?_
  show own_G p e below _ T0 (mkF m 1 #[.val (.ref a1), .val (.int (27 : Int32))] [(.int (2 : Int32))])
  refine own_go (fun t k => XS.aloadN X0.here hx rfl (hb hby d3_1) rfl rfl k) ?_
  show own_G p e below _ T0 (mkF m 2 #[.val (.ref a1), .val (.int (27 : Int32))] [(.ref a1), (.int (2 : Int32))])
  refine own_go (fun t k => XS.iloadN X0.here hx rfl (hb hby d3_2) rfl k) ?_
  show own_G p e below _ T0 (mkF m 3 #[.val (.ref a1), .val (.int (27 : Int32))] [(.int (27 : Int32)), (.ref a1), (.int (2 : Int32))])
  obtain ⟨T1, L1, v1, X1, ⟨rfl, rfl, q1⟩, st1⟩ := own_callS X0 hx hZ (y := (⟨"com/example/compensa/compensa/CheckDigitsGeneralDigitPinLaw", "d", "([CI)I"⟩ : MethodName)) hown (hw _ (List.mem_of_getElem? (i := 13) rfl)) (hw _ (List.mem_of_getElem? (i := 14) rfl)) (hw _ (List.mem_of_getElem? (i := 3) rfl)) (hw _ (List.mem_of_getElem? (i := 15) rfl)) (by decide) (c_d l Z a0 hw a1 cl (27 : Int32) (W 27) h0 Ar (own_in hsz (by decide)) (hat 27 (by decide))) e0 (argsL := [(.ref a1), (.int (27 : Int32))]) (rest := [(.int (2 : Int32))]) (g := (mkF m 3 #[.val (.ref a1), .val (.int (27 : Int32))] [(.int (27 : Int32)), (.ref a1), (.int (2 : Int32))])) rfl (by rw [hml]; rfl) (ps := [(.array .char), .int]) (r := (some .int)) (by decide +kernel) rfl rfl (W := 1) (by show 2 * 0 + _ ≤ _; exact Nat.le_of_eq rfl) (hb hby d3_3) (by decide) (by decide) (by decide) (by decide)
  refine own_go st1 ?_
  show own_G p e below _ T1 (mkF m 6 #[.val (.ref a1), .val (.int (27 : Int32))] [(.int (W 27 - (48 : Int32))), (.int (2 : Int32))])
  refine own_go (fun t k => XS.imul X1.here hx rfl (hb hby d3_6) rfl k) ?_
  show own_G p e below _ T1 (mkF m 7 #[.val (.ref a1), .val (.int (27 : Int32))] [(.int ((2 : Int32) * (W 27 - (48 : Int32))))])
  refine own_go (fun t k => XS.iconst X1.here hx rfl (hb hby d3_7) k) ?_
  show own_G p e below _ T1 (mkF m 8 #[.val (.ref a1), .val (.int (27 : Int32))] [(.int (3 : Int32)), (.int ((2 : Int32) * (W 27 - (48 : Int32))))])
  refine own_go (fun t k => XS.aloadN X1.here hx rfl (hb hby d3_8) rfl rfl k) ?_
  show own_G p e below _ T1 (mkF m 9 #[.val (.ref a1), .val (.int (27 : Int32))] [(.ref a1), (.int (3 : Int32)), (.int ((2 : Int32) * (W 27 - (48 : Int32))))])
  refine own_go (fun t k => XS.iloadN X1.here hx rfl (hb hby d3_9) rfl k) ?_
  show own_G p e below _ T1 (mkF m 10 #[.val (.ref a1), .val (.int (27 : Int32))] [(.int (27 : Int32)), (.ref a1), (.int (3 : Int32)), (.int ((2 : Int32) * (W 27 - (48 : Int32))))])
  refine own_go (fun t k => XS.iconst X1.here hx rfl (hb hby d3_10) k) ?_
  show own_G p e below _ T1 (mkF m 11 #[.val (.ref a1), .val (.int (27 : Int32))] [(.int (1 : Int32)), (.int (27 : Int32)), (.ref a1), (.int (3 : Int32)), (.int ((2 : Int32) * (W 27 - (48 : Int32))))])
  refine own_go (fun t k => XS.isub X1.here hx rfl (hb hby d3_11) rfl k) ?_
  show own_G p e below _ T1 (mkF m 12 #[.val (.ref a1), .val (.int (27 : Int32))] [(.int (26 : Int32)), (.ref a1), (.int (3 : Int32)), (.int ((2 : Int32) * (W 27 - (48 : Int32))))])
  obtain ⟨T2, L2, v2, X2, ⟨rfl, rfl, q2⟩, st2⟩ := own_callS X1 hx hZ (y := (⟨"com/example/compensa/compensa/CheckDigitsGeneralDigitPinLaw", "d", "([CI)I"⟩ : MethodName)) hown (hw _ (List.mem_of_getElem? (i := 13) rfl)) (hw _ (List.mem_of_getElem? (i := 14) rfl)) (hw _ (List.mem_of_getElem? (i := 3) rfl)) (hw _ (List.mem_of_getElem? (i := 15) rfl)) (by decide) (c_d l Z a0 hw a1 cl (26 : Int32) (W 26) h0 Ar (own_in hsz (by decide)) (hat 26 (by decide))) q1 (argsL := [(.ref a1), (.int (26 : Int32))]) (rest := [(.int (3 : Int32)), (.int ((2 : Int32) * (W 27 - (48 : Int32))))]) (g := (mkF m 12 #[.val (.ref a1), .val (.int (27 : Int32))] [(.int (26 : Int32)), (.ref a1), (.int (3 : Int32)), (.int ((2 : Int32) * (W 27 - (48 : Int32))))])) rfl (by rw [hml]; rfl) (ps := [(.array .char), .int]) (r := (some .int)) (by decide +kernel) rfl rfl (W := 2) (by show 2 * 0 + _ ≤ _; exact Nat.le_of_eq rfl) (hb hby d3_12) (by decide) (by decide) (by decide) (by decide)
  refine own_go st2 ?_
  show own_G p e below _ T2 (mkF m 15 #[.val (.ref a1), .val (.int (27 : Int32))] [(.int (W 26 - (48 : Int32))), (.int (3 : Int32)), (.int ((2 : Int32) * (W 27 - (48 : Int32))))])
  refine own_go (fun t k => XS.imul X2.here hx rfl (hb hby d3_15) rfl k) ?_
  show own_G p e below _ T2 (mkF m 16 #[.val (.ref a1), .val (.int (27 : Int32))] [(.int ((3 : Int32) * (W 26 - (48 : Int32)))), (.int ((2 : Int32) * (W 27 - (48 : Int32))))])
  refine own_go (fun t k => XS.iadd X2.here hx rfl (hb hby d3_16) rfl k) ?_
  show own_G p e below _ T2 (mkF m 17 #[.val (.ref a1), .val (.int (27 : Int32))] [(.int (((2 : Int32) * (W 27 - (48 : Int32))) + ((3 : Int32) * (W 26 - (48 : Int32)))))])
  refine own_go (fun t k => XS.iconst X2.here hx rfl (hb hby d3_17) k) ?_
  show own_G p e below _ T2 (mkF m 18 #[.val (.ref a1), .val (.int (27 : Int32))] [(.int (4 : Int32)), (.int (((2 : Int32) * (W 27 - (48 : Int32))) + ((3 : Int32) * (W 26 - (48 : Int32)))))])
  refine own_go (fun t k => XS.aloadN X2.here hx rfl (hb hby d3_18) rfl rfl k) ?_
  show own_G p e below _ T2 (mkF m 19 #[.val (.ref a1), .val (.int (27 : Int32))] [(.ref a1), (.int (4 : Int32)), (.int (((2 : Int32) * (W 27 - (48 : Int32))) + ((3 : Int32) * (W 26 - (48 : Int32)))))])
  refine own_go (fun t k => XS.iloadN X2.here hx rfl (hb hby d3_19) rfl k) ?_
  show own_G p e below _ T2 (mkF m 20 #[.val (.ref a1), .val (.int (27 : Int32))] [(.int (27 : Int32)), (.ref a1), (.int (4 : Int32)), (.int (((2 : Int32) * (W 27 - (48 : Int32))) + ((3 : Int32) * (W 26 - (48 : Int32)))))])
  refine own_go (fun t k => XS.iconst X2.here hx rfl (hb hby d3_20) k) ?_
  show own_G p e below _ T2 (mkF m 21 #[.val (.ref a1), .val (.int (27 : Int32))] [(.int (2 : Int32)), (.int (27 : Int32)), (.ref a1), (.int (4 : Int32)), (.int (((2 : Int32) * (W 27 - (48 : Int32))) + ((3 : Int32) * (W 26 - (48 : Int32)))))])
  refine own_go (fun t k => XS.isub X2.here hx rfl (hb hby d3_21) rfl k) ?_
  show own_G p e below _ T2 (mkF m 22 #[.val (.ref a1), .val (.int (27 : Int32))] [(.int (25 : Int32)), (.ref a1), (.int (4 : Int32)), (.int (((2 : Int32) * (W 27 - (48 : Int32))) + ((3 : Int32) * (W 26 - (48 : Int32)))))])
  obtain ⟨T3, L3, v3, X3, ⟨rfl, rfl, q3⟩, st3⟩ := own_callS X2 hx hZ (y := (⟨"com/example/compensa/compensa/CheckDigitsGeneralDigitPinLaw", "d", "([CI)I"⟩ : MethodName)) hown (hw _ (List.mem_of_getElem? (i := 13) rfl)) (hw _ (List.mem_of_getElem? (i := 14) rfl)) (hw _ (List.mem_of_getElem? (i := 3) rfl)) (hw _ (List.mem_of_getElem? (i := 15) rfl)) (by decide) (c_d l Z a0 hw a1 cl (25 : Int32) (W 25) h0 Ar (own_in hsz (by decide)) (hat 25 (by decide))) q2 (argsL := [(.ref a1), (.int (25 : Int32))]) (rest := [(.int (4 : Int32)), (.int (((2 : Int32) * (W 27 - (48 : Int32))) + ((3 : Int32) * (W 26 - (48 : Int32)))))]) (g := (mkF m 22 #[.val (.ref a1), .val (.int (27 : Int32))] [(.int (25 : Int32)), (.ref a1), (.int (4 : Int32)), (.int (((2 : Int32) * (W 27 - (48 : Int32))) + ((3 : Int32) * (W 26 - (48 : Int32)))))])) rfl (by rw [hml]; rfl) (ps := [(.array .char), .int]) (r := (some .int)) (by decide +kernel) rfl rfl (W := 2) (by show 2 * 0 + _ ≤ _; exact Nat.le_of_eq rfl) (hb hby d3_22) (by decide) (by decide) (by decide) (by decide)
  refine own_go st3 ?_
  show own_G p e below _ T3 (mkF m 25 #[.val (.ref a1), .val (.int (27 : Int32))] [(.int (W 25 - (48 : Int32))), (.int (4 : Int32)), (.int (((2 : Int32) * (W 27 - (48 : Int32))) + ((3 : Int32) * (W 26 - (48 : Int32)))))])
  refine own_go (fun t k => XS.imul X3.here hx rfl (hb hby d3_25) rfl k) ?_
  show own_G p e below _ T3 (mkF m 26 #[.val (.ref a1), .val (.int (27 : Int32))] [(.int ((4 : Int32) * (W 25 - (48 : Int32)))), (.int (((2 : Int32) * (W 27 - (48 : Int32))) + ((3 : Int32) * (W 26 - (48 : Int32)))))])
  refine own_go (fun t k => XS.iadd X3.here hx rfl (hb hby d3_26) rfl k) ?_
  show own_G p e below _ T3 (mkF m 27 #[.val (.ref a1), .val (.int (27 : Int32))] [(.int ((((2 : Int32) * (W 27 - (48 : Int32))) + ((3 : Int32) * (W 26 - (48 : Int32)))) + ((4 : Int32) * (W 25 - (48 : Int32)))))])
  refine own_go (fun t k => XS.iconst X3.here hx rfl (hb hby d3_27) k) ?_
  show own_G p e below _ T3 (mkF m 28 #[.val (.ref a1), .val (.int (27 : Int32))] [(.int (5 : Int32)), (.int ((((2 : Int32) * (W 27 - (48 : Int32))) + ((3 : Int32) * (W 26 - (48 : Int32)))) + ((4 : Int32) * (W 25 - (48 : Int32)))))])
  refine own_go (fun t k => XS.aloadN X3.here hx rfl (hb hby d3_28) rfl rfl k) ?_
  show own_G p e below _ T3 (mkF m 29 #[.val (.ref a1), .val (.int (27 : Int32))] [(.ref a1), (.int (5 : Int32)), (.int ((((2 : Int32) * (W 27 - (48 : Int32))) + ((3 : Int32) * (W 26 - (48 : Int32)))) + ((4 : Int32) * (W 25 - (48 : Int32)))))])
  refine own_go (fun t k => XS.iloadN X3.here hx rfl (hb hby d3_29) rfl k) ?_
  show own_G p e below _ T3 (mkF m 30 #[.val (.ref a1), .val (.int (27 : Int32))] [(.int (27 : Int32)), (.ref a1), (.int (5 : Int32)), (.int ((((2 : Int32) * (W 27 - (48 : Int32))) + ((3 : Int32) * (W 26 - (48 : Int32)))) + ((4 : Int32) * (W 25 - (48 : Int32)))))])
  refine own_go (fun t k => XS.iconst X3.here hx rfl (hb hby d3_30) k) ?_
  show own_G p e below _ T3 (mkF m 31 #[.val (.ref a1), .val (.int (27 : Int32))] [(.int (3 : Int32)), (.int (27 : Int32)), (.ref a1), (.int (5 : Int32)), (.int ((((2 : Int32) * (W 27 - (48 : Int32))) + ((3 : Int32) * (W 26 - (48 : Int32)))) + ((4 : Int32) * (W 25 - (48 : Int32)))))])
  refine own_go (fun t k => XS.isub X3.here hx rfl (hb hby d3_31) rfl k) ?_
  show own_G p e below _ T3 (mkF m 32 #[.val (.ref a1), .val (.int (27 : Int32))] [(.int (24 : Int32)), (.ref a1), (.int (5 : Int32)), (.int ((((2 : Int32) * (W 27 - (48 : Int32))) + ((3 : Int32) * (W 26 - (48 : Int32)))) + ((4 : Int32) * (W 25 - (48 : Int32)))))])
  obtain ⟨T4, L4, v4, X4, ⟨rfl, rfl, q4⟩, st4⟩ := own_callS X3 hx hZ (y := (⟨"com/example/compensa/compensa/CheckDigitsGeneralDigitPinLaw", "d", "([CI)I"⟩ : MethodName)) hown (hw _ (List.mem_of_getElem? (i := 13) rfl)) (hw _ (List.mem_of_getElem? (i := 14) rfl)) (hw _ (List.mem_of_getElem? (i := 3) rfl)) (hw _ (List.mem_of_getElem? (i := 15) rfl)) (by decide) (c_d l Z a0 hw a1 cl (24 : Int32) (W 24) h0 Ar (own_in hsz (by decide)) (hat 24 (by decide))) q3 (argsL := [(.ref a1), (.int (24 : Int32))]) (rest := [(.int (5 : Int32)), (.int ((((2 : Int32) * (W 27 - (48 : Int32))) + ((3 : Int32) * (W 26 - (48 : Int32)))) + ((4 : Int32) * (W 25 - (48 : Int32)))))]) (g := (mkF m 32 #[.val (.ref a1), .val (.int (27 : Int32))] [(.int (24 : Int32)), (.ref a1), (.int (5 : Int32)), (.int ((((2 : Int32) * (W 27 - (48 : Int32))) + ((3 : Int32) * (W 26 - (48 : Int32)))) + ((4 : Int32) * (W 25 - (48 : Int32)))))])) rfl (by rw [hml]; rfl) (ps := [(.array .char), .int]) (r := (some .int)) (by decide +kernel) rfl rfl (W := 2) (by show 2 * 0 + _ ≤ _; exact Nat.le_of_eq rfl) (hb hby d3_32) (by decide) (by decide) (by decide) (by decide)
  refine own_go st4 ?_
  show own_G p e below _ T4 (mkF m 35 #[.val (.ref a1), .val (.int (27 : Int32))] [(.int (W 24 - (48 : Int32))), (.int (5 : Int32)), (.int ((((2 : Int32) * (W 27 - (48 : Int32))) + ((3 : Int32) * (W 26 - (48 : Int32)))) + ((4 : Int32) * (W 25 - (48 : Int32)))))])
  refine own_go (fun t k => XS.imul X4.here hx rfl (hb hby d3_35) rfl k) ?_
  show own_G p e below _ T4 (mkF m 36 #[.val (.ref a1), .val (.int (27 : Int32))] [(.int ((5 : Int32) * (W 24 - (48 : Int32)))), (.int ((((2 : Int32) * (W 27 - (48 : Int32))) + ((3 : Int32) * (W 26 - (48 : Int32)))) + ((4 : Int32) * (W 25 - (48 : Int32)))))])
  refine own_go (fun t k => XS.iadd X4.here hx rfl (hb hby d3_36) rfl k) ?_
  show own_G p e below _ T4 (mkF m 37 #[.val (.ref a1), .val (.int (27 : Int32))] [(.int (((((2 : Int32) * (W 27 - (48 : Int32))) + ((3 : Int32) * (W 26 - (48 : Int32)))) + ((4 : Int32) * (W 25 - (48 : Int32)))) + ((5 : Int32) * (W 24 - (48 : Int32)))))])
  refine own_go (fun t k => XS.bipush X4.here hx rfl (hb hby d3_37) k) ?_
  show own_G p e below _ T4 (mkF m 39 #[.val (.ref a1), .val (.int (27 : Int32))] [(.int (6 : Int32)), (.int (((((2 : Int32) * (W 27 - (48 : Int32))) + ((3 : Int32) * (W 26 - (48 : Int32)))) + ((4 : Int32) * (W 25 - (48 : Int32)))) + ((5 : Int32) * (W 24 - (48 : Int32)))))])
  refine own_go (fun t k => XS.aloadN X4.here hx rfl (hb hby d3_39) rfl rfl k) ?_
  show own_G p e below _ T4 (mkF m 40 #[.val (.ref a1), .val (.int (27 : Int32))] [(.ref a1), (.int (6 : Int32)), (.int (((((2 : Int32) * (W 27 - (48 : Int32))) + ((3 : Int32) * (W 26 - (48 : Int32)))) + ((4 : Int32) * (W 25 - (48 : Int32)))) + ((5 : Int32) * (W 24 - (48 : Int32)))))])
  refine own_go (fun t k => XS.iloadN X4.here hx rfl (hb hby d3_40) rfl k) ?_
  show own_G p e below _ T4 (mkF m 41 #[.val (.ref a1), .val (.int (27 : Int32))] [(.int (27 : Int32)), (.ref a1), (.int (6 : Int32)), (.int (((((2 : Int32) * (W 27 - (48 : Int32))) + ((3 : Int32) * (W 26 - (48 : Int32)))) + ((4 : Int32) * (W 25 - (48 : Int32)))) + ((5 : Int32) * (W 24 - (48 : Int32)))))])
  refine own_go (fun t k => XS.iconst X4.here hx rfl (hb hby d3_41) k) ?_
  show own_G p e below _ T4 (mkF m 42 #[.val (.ref a1), .val (.int (27 : Int32))] [(.int (4 : Int32)), (.int (27 : Int32)), (.ref a1), (.int (6 : Int32)), (.int (((((2 : Int32) * (W 27 - (48 : Int32))) + ((3 : Int32) * (W 26 - (48 : Int32)))) + ((4 : Int32) * (W 25 - (48 : Int32)))) + ((5 : Int32) * (W 24 - (48 : Int32)))))])
  refine own_go (fun t k => XS.isub X4.here hx rfl (hb hby d3_42) rfl k) ?_
  show own_G p e below _ T4 (mkF m 43 #[.val (.ref a1), .val (.int (27 : Int32))] [(.int (23 : Int32)), (.ref a1), (.int (6 : Int32)), (.int (((((2 : Int32) * (W 27 - (48 : Int32))) + ((3 : Int32) * (W 26 - (48 : Int32)))) + ((4 : Int32) * (W 25 - (48 : Int32)))) + ((5 : Int32) * (W 24 - (48 : Int32)))))])
  obtain ⟨T5, L5, v5, X5, ⟨rfl, rfl, q5⟩, st5⟩ := own_callS X4 hx hZ (y := (⟨"com/example/compensa/compensa/CheckDigitsGeneralDigitPinLaw", "d", "([CI)I"⟩ : MethodName)) hown (hw _ (List.mem_of_getElem? (i := 13) rfl)) (hw _ (List.mem_of_getElem? (i := 14) rfl)) (hw _ (List.mem_of_getElem? (i := 3) rfl)) (hw _ (List.mem_of_getElem? (i := 15) rfl)) (by decide) (c_d l Z a0 hw a1 cl (23 : Int32) (W 23) h0 Ar (own_in hsz (by decide)) (hat 23 (by decide))) q4 (argsL := [(.ref a1), (.int (23 : Int32))]) (rest := [(.int (6 : Int32)), (.int (((((2 : Int32) * (W 27 - (48 : Int32))) + ((3 : Int32) * (W 26 - (48 : Int32)))) + ((4 : Int32) * (W 25 - (48 : Int32)))) + ((5 : Int32) * (W 24 - (48 : Int32)))))]) (g := (mkF m 43 #[.val (.ref a1), .val (.int (27 : Int32))] [(.int (23 : Int32)), (.ref a1), (.int (6 : Int32)), (.int (((((2 : Int32) * (W 27 - (48 : Int32))) + ((3 : Int32) * (W 26 - (48 : Int32)))) + ((4 : Int32) * (W 25 - (48 : Int32)))) + ((5 : Int32) * (W 24 - (48 : Int32)))))])) rfl (by rw [hml]; rfl) (ps := [(.array .char), .int]) (r := (some .int)) (by decide +kernel) rfl rfl (W := 2) (by show 2 * 0 + _ ≤ _; exact Nat.le_of_eq rfl) (hb hby d3_43) (by decide) (by decide) (by decide) (by decide)
  refine own_go st5 ?_
  show own_G p e below _ T5 (mkF m 46 #[.val (.ref a1), .val (.int (27 : Int32))] [(.int (W 23 - (48 : Int32))), (.int (6 : Int32)), (.int (((((2 : Int32) * (W 27 - (48 : Int32))) + ((3 : Int32) * (W 26 - (48 : Int32)))) + ((4 : Int32) * (W 25 - (48 : Int32)))) + ((5 : Int32) * (W 24 - (48 : Int32)))))])
  refine own_go (fun t k => XS.imul X5.here hx rfl (hb hby d3_46) rfl k) ?_
  show own_G p e below _ T5 (mkF m 47 #[.val (.ref a1), .val (.int (27 : Int32))] [(.int ((6 : Int32) * (W 23 - (48 : Int32)))), (.int (((((2 : Int32) * (W 27 - (48 : Int32))) + ((3 : Int32) * (W 26 - (48 : Int32)))) + ((4 : Int32) * (W 25 - (48 : Int32)))) + ((5 : Int32) * (W 24 - (48 : Int32)))))])
  refine own_go (fun t k => XS.iadd X5.here hx rfl (hb hby d3_47) rfl k) ?_
  show own_G p e below _ T5 (mkF m 48 #[.val (.ref a1), .val (.int (27 : Int32))] [(.int ((((((2 : Int32) * (W 27 - (48 : Int32))) + ((3 : Int32) * (W 26 - (48 : Int32)))) + ((4 : Int32) * (W 25 - (48 : Int32)))) + ((5 : Int32) * (W 24 - (48 : Int32)))) + ((6 : Int32) * (W 23 - (48 : Int32)))))])
  refine own_go (fun t k => XS.bipush X5.here hx rfl (hb hby d3_48) k) ?_
  show own_G p e below _ T5 (mkF m 50 #[.val (.ref a1), .val (.int (27 : Int32))] [(.int (7 : Int32)), (.int ((((((2 : Int32) * (W 27 - (48 : Int32))) + ((3 : Int32) * (W 26 - (48 : Int32)))) + ((4 : Int32) * (W 25 - (48 : Int32)))) + ((5 : Int32) * (W 24 - (48 : Int32)))) + ((6 : Int32) * (W 23 - (48 : Int32)))))])
  refine own_go (fun t k => XS.aloadN X5.here hx rfl (hb hby d3_50) rfl rfl k) ?_
  show own_G p e below _ T5 (mkF m 51 #[.val (.ref a1), .val (.int (27 : Int32))] [(.ref a1), (.int (7 : Int32)), (.int ((((((2 : Int32) * (W 27 - (48 : Int32))) + ((3 : Int32) * (W 26 - (48 : Int32)))) + ((4 : Int32) * (W 25 - (48 : Int32)))) + ((5 : Int32) * (W 24 - (48 : Int32)))) + ((6 : Int32) * (W 23 - (48 : Int32)))))])
  refine own_go (fun t k => XS.iloadN X5.here hx rfl (hb hby d3_51) rfl k) ?_
  show own_G p e below _ T5 (mkF m 52 #[.val (.ref a1), .val (.int (27 : Int32))] [(.int (27 : Int32)), (.ref a1), (.int (7 : Int32)), (.int ((((((2 : Int32) * (W 27 - (48 : Int32))) + ((3 : Int32) * (W 26 - (48 : Int32)))) + ((4 : Int32) * (W 25 - (48 : Int32)))) + ((5 : Int32) * (W 24 - (48 : Int32)))) + ((6 : Int32) * (W 23 - (48 : Int32)))))])
  refine own_go (fun t k => XS.iconst X5.here hx rfl (hb hby d3_52) k) ?_
  show own_G p e below _ T5 (mkF m 53 #[.val (.ref a1), .val (.int (27 : Int32))] [(.int (5 : Int32)), (.int (27 : Int32)), (.ref a1), (.int (7 : Int32)), (.int ((((((2 : Int32) * (W 27 - (48 : Int32))) + ((3 : Int32) * (W 26 - (48 : Int32)))) + ((4 : Int32) * (W 25 - (48 : Int32)))) + ((5 : Int32) * (W 24 - (48 : Int32)))) + ((6 : Int32) * (W 23 - (48 : Int32)))))])
  refine own_go (fun t k => XS.isub X5.here hx rfl (hb hby d3_53) rfl k) ?_
  show own_G p e below _ T5 (mkF m 54 #[.val (.ref a1), .val (.int (27 : Int32))] [(.int (22 : Int32)), (.ref a1), (.int (7 : Int32)), (.int ((((((2 : Int32) * (W 27 - (48 : Int32))) + ((3 : Int32) * (W 26 - (48 : Int32)))) + ((4 : Int32) * (W 25 - (48 : Int32)))) + ((5 : Int32) * (W 24 - (48 : Int32)))) + ((6 : Int32) * (W 23 - (48 : Int32)))))])
  obtain ⟨T6, L6, v6, X6, ⟨rfl, rfl, q6⟩, st6⟩ := own_callS X5 hx hZ (y := (⟨"com/example/compensa/compensa/CheckDigitsGeneralDigitPinLaw", "d", "([CI)I"⟩ : MethodName)) hown (hw _ (List.mem_of_getElem? (i := 13) rfl)) (hw _ (List.mem_of_getElem? (i := 14) rfl)) (hw _ (List.mem_of_getElem? (i := 3) rfl)) (hw _ (List.mem_of_getElem? (i := 15) rfl)) (by decide) (c_d l Z a0 hw a1 cl (22 : Int32) (W 22) h0 Ar (own_in hsz (by decide)) (hat 22 (by decide))) q5 (argsL := [(.ref a1), (.int (22 : Int32))]) (rest := [(.int (7 : Int32)), (.int ((((((2 : Int32) * (W 27 - (48 : Int32))) + ((3 : Int32) * (W 26 - (48 : Int32)))) + ((4 : Int32) * (W 25 - (48 : Int32)))) + ((5 : Int32) * (W 24 - (48 : Int32)))) + ((6 : Int32) * (W 23 - (48 : Int32)))))]) (g := (mkF m 54 #[.val (.ref a1), .val (.int (27 : Int32))] [(.int (22 : Int32)), (.ref a1), (.int (7 : Int32)), (.int ((((((2 : Int32) * (W 27 - (48 : Int32))) + ((3 : Int32) * (W 26 - (48 : Int32)))) + ((4 : Int32) * (W 25 - (48 : Int32)))) + ((5 : Int32) * (W 24 - (48 : Int32)))) + ((6 : Int32) * (W 23 - (48 : Int32)))))])) rfl (by rw [hml]; rfl) (ps := [(.array .char), .int]) (r := (some .int)) (by decide +kernel) rfl rfl (W := 2) (by show 2 * 0 + _ ≤ _; exact Nat.le_of_eq rfl) (hb hby d3_54) (by decide) (by decide) (by decide) (by decide)
  refine own_go st6 ?_
  show own_G p e below _ T6 (mkF m 57 #[.val (.ref a1), .val (.int (27 : Int32))] [(.int (W 22 - (48 : Int32))), (.int (7 : Int32)), (.int ((((((2 : Int32) * (W 27 - (48 : Int32))) + ((3 : Int32) * (W 26 - (48 : Int32)))) + ((4 : Int32) * (W 25 - (48 : Int32)))) + ((5 : Int32) * (W 24 - (48 : Int32)))) + ((6 : Int32) * (W 23 - (48 : Int32)))))])
  refine own_go (fun t k => XS.imul X6.here hx rfl (hb hby d3_57) rfl k) ?_
  show own_G p e below _ T6 (mkF m 58 #[.val (.ref a1), .val (.int (27 : Int32))] [(.int ((7 : Int32) * (W 22 - (48 : Int32)))), (.int ((((((2 : Int32) * (W 27 - (48 : Int32))) + ((3 : Int32) * (W 26 - (48 : Int32)))) + ((4 : Int32) * (W 25 - (48 : Int32)))) + ((5 : Int32) * (W 24 - (48 : Int32)))) + ((6 : Int32) * (W 23 - (48 : Int32)))))])
  refine own_go (fun t k => XS.iadd X6.here hx rfl (hb hby d3_58) rfl k) ?_
  show own_G p e below _ T6 (mkF m 59 #[.val (.ref a1), .val (.int (27 : Int32))] [(.int (((((((2 : Int32) * (W 27 - (48 : Int32))) + ((3 : Int32) * (W 26 - (48 : Int32)))) + ((4 : Int32) * (W 25 - (48 : Int32)))) + ((5 : Int32) * (W 24 - (48 : Int32)))) + ((6 : Int32) * (W 23 - (48 : Int32)))) + ((7 : Int32) * (W 22 - (48 : Int32)))))])
  refine own_go (fun t k => XS.bipush X6.here hx rfl (hb hby d3_59) k) ?_
  show own_G p e below _ T6 (mkF m 61 #[.val (.ref a1), .val (.int (27 : Int32))] [(.int (8 : Int32)), (.int (((((((2 : Int32) * (W 27 - (48 : Int32))) + ((3 : Int32) * (W 26 - (48 : Int32)))) + ((4 : Int32) * (W 25 - (48 : Int32)))) + ((5 : Int32) * (W 24 - (48 : Int32)))) + ((6 : Int32) * (W 23 - (48 : Int32)))) + ((7 : Int32) * (W 22 - (48 : Int32)))))])
  refine own_go (fun t k => XS.aloadN X6.here hx rfl (hb hby d3_61) rfl rfl k) ?_
  show own_G p e below _ T6 (mkF m 62 #[.val (.ref a1), .val (.int (27 : Int32))] [(.ref a1), (.int (8 : Int32)), (.int (((((((2 : Int32) * (W 27 - (48 : Int32))) + ((3 : Int32) * (W 26 - (48 : Int32)))) + ((4 : Int32) * (W 25 - (48 : Int32)))) + ((5 : Int32) * (W 24 - (48 : Int32)))) + ((6 : Int32) * (W 23 - (48 : Int32)))) + ((7 : Int32) * (W 22 - (48 : Int32)))))])
  refine own_go (fun t k => XS.iloadN X6.here hx rfl (hb hby d3_62) rfl k) ?_
  show own_G p e below _ T6 (mkF m 63 #[.val (.ref a1), .val (.int (27 : Int32))] [(.int (27 : Int32)), (.ref a1), (.int (8 : Int32)), (.int (((((((2 : Int32) * (W 27 - (48 : Int32))) + ((3 : Int32) * (W 26 - (48 : Int32)))) + ((4 : Int32) * (W 25 - (48 : Int32)))) + ((5 : Int32) * (W 24 - (48 : Int32)))) + ((6 : Int32) * (W 23 - (48 : Int32)))) + ((7 : Int32) * (W 22 - (48 : Int32)))))])
  refine own_go (fun t k => XS.bipush X6.here hx rfl (hb hby d3_63) k) ?_
  show own_G p e below _ T6 (mkF m 65 #[.val (.ref a1), .val (.int (27 : Int32))] [(.int (6 : Int32)), (.int (27 : Int32)), (.ref a1), (.int (8 : Int32)), (.int (((((((2 : Int32) * (W 27 - (48 : Int32))) + ((3 : Int32) * (W 26 - (48 : Int32)))) + ((4 : Int32) * (W 25 - (48 : Int32)))) + ((5 : Int32) * (W 24 - (48 : Int32)))) + ((6 : Int32) * (W 23 - (48 : Int32)))) + ((7 : Int32) * (W 22 - (48 : Int32)))))])
  refine own_go (fun t k => XS.isub X6.here hx rfl (hb hby d3_65) rfl k) ?_
  show own_G p e below _ T6 (mkF m 66 #[.val (.ref a1), .val (.int (27 : Int32))] [(.int (21 : Int32)), (.ref a1), (.int (8 : Int32)), (.int (((((((2 : Int32) * (W 27 - (48 : Int32))) + ((3 : Int32) * (W 26 - (48 : Int32)))) + ((4 : Int32) * (W 25 - (48 : Int32)))) + ((5 : Int32) * (W 24 - (48 : Int32)))) + ((6 : Int32) * (W 23 - (48 : Int32)))) + ((7 : Int32) * (W 22 - (48 : Int32)))))])
  obtain ⟨T7, L7, v7, X7, ⟨rfl, rfl, q7⟩, st7⟩ := own_callS X6 hx hZ (y := (⟨"com/example/compensa/compensa/CheckDigitsGeneralDigitPinLaw", "d", "([CI)I"⟩ : MethodName)) hown (hw _ (List.mem_of_getElem? (i := 13) rfl)) (hw _ (List.mem_of_getElem? (i := 14) rfl)) (hw _ (List.mem_of_getElem? (i := 3) rfl)) (hw _ (List.mem_of_getElem? (i := 15) rfl)) (by decide) (c_d l Z a0 hw a1 cl (21 : Int32) (W 21) h0 Ar (own_in hsz (by decide)) (hat 21 (by decide))) q6 (argsL := [(.ref a1), (.int (21 : Int32))]) (rest := [(.int (8 : Int32)), (.int (((((((2 : Int32) * (W 27 - (48 : Int32))) + ((3 : Int32) * (W 26 - (48 : Int32)))) + ((4 : Int32) * (W 25 - (48 : Int32)))) + ((5 : Int32) * (W 24 - (48 : Int32)))) + ((6 : Int32) * (W 23 - (48 : Int32)))) + ((7 : Int32) * (W 22 - (48 : Int32)))))]) (g := (mkF m 66 #[.val (.ref a1), .val (.int (27 : Int32))] [(.int (21 : Int32)), (.ref a1), (.int (8 : Int32)), (.int (((((((2 : Int32) * (W 27 - (48 : Int32))) + ((3 : Int32) * (W 26 - (48 : Int32)))) + ((4 : Int32) * (W 25 - (48 : Int32)))) + ((5 : Int32) * (W 24 - (48 : Int32)))) + ((6 : Int32) * (W 23 - (48 : Int32)))) + ((7 : Int32) * (W 22 - (48 : Int32)))))])) rfl (by rw [hml]; rfl) (ps := [(.array .char), .int]) (r := (some .int)) (by decide +kernel) rfl rfl (W := 2) (by show 2 * 0 + _ ≤ _; exact Nat.le_of_eq rfl) (hb hby d3_66) (by decide) (by decide) (by decide) (by decide)
  refine own_go st7 ?_
  show own_G p e below _ T7 (mkF m 69 #[.val (.ref a1), .val (.int (27 : Int32))] [(.int (W 21 - (48 : Int32))), (.int (8 : Int32)), (.int (((((((2 : Int32) * (W 27 - (48 : Int32))) + ((3 : Int32) * (W 26 - (48 : Int32)))) + ((4 : Int32) * (W 25 - (48 : Int32)))) + ((5 : Int32) * (W 24 - (48 : Int32)))) + ((6 : Int32) * (W 23 - (48 : Int32)))) + ((7 : Int32) * (W 22 - (48 : Int32)))))])
  refine own_go (fun t k => XS.imul X7.here hx rfl (hb hby d3_69) rfl k) ?_
  show own_G p e below _ T7 (mkF m 70 #[.val (.ref a1), .val (.int (27 : Int32))] [(.int ((8 : Int32) * (W 21 - (48 : Int32)))), (.int (((((((2 : Int32) * (W 27 - (48 : Int32))) + ((3 : Int32) * (W 26 - (48 : Int32)))) + ((4 : Int32) * (W 25 - (48 : Int32)))) + ((5 : Int32) * (W 24 - (48 : Int32)))) + ((6 : Int32) * (W 23 - (48 : Int32)))) + ((7 : Int32) * (W 22 - (48 : Int32)))))])
  refine own_go (fun t k => XS.iadd X7.here hx rfl (hb hby d3_70) rfl k) ?_
  show own_G p e below _ T7 (mkF m 71 #[.val (.ref a1), .val (.int (27 : Int32))] [(.int ((((((((2 : Int32) * (W 27 - (48 : Int32))) + ((3 : Int32) * (W 26 - (48 : Int32)))) + ((4 : Int32) * (W 25 - (48 : Int32)))) + ((5 : Int32) * (W 24 - (48 : Int32)))) + ((6 : Int32) * (W 23 - (48 : Int32)))) + ((7 : Int32) * (W 22 - (48 : Int32)))) + ((8 : Int32) * (W 21 - (48 : Int32)))))])
  exact own_retI X7 hx hlk hret (hb hby d3_71) (by decide) (by decide) ⟨rfl, rfl, q7⟩
set_option maxRecDepth 65536 in
set_option maxHeartbeats 40000000 in
theorem c_run7_19 (l : Launch) (Z : State) (a0 : Array Value) (hw : ∀ d ∈ tables_1, d.before a0 Z = true) (a1 : Addr) (cl : Cell) (W : Nat → Int32) (h0 : Heap) (Ar : Arr Z h0 a1 cl .char) (hsz : cl.slots.size = 44) (hat : ∀ i, i < 44 → cl.slots[i]? = some (.int (W i))) :
    own_M l Z (⟨"com/example/compensa/compensa/CheckDigitsGeneralDigitPinLaw", "run7", "([CI)I"⟩ : MethodName) method_4_code 2 (some .int) ⟨1, 0, 0, 30⟩ #[.ref a1, .int (19 : Int32)] h0 (fun v h L => v = some (.int (own_r7 W 19)) ∧ L = [] ∧ h = h0) := by
  refine own_body pn_3 ?_
  intro p e s m below meth c T0 hx hby hml hlk hown hret hnm hZ X0 e0
  replace hown : s.vm.findClass "com/example/compensa/compensa/CheckDigitsGeneralDigitPinLaw" = some m.cls := hown
  replace hml : c.maxLocals = 2 := hml
  have ef : entryFrame m #[.ref a1, .int (19 : Int32)] 2 = (mkF m 0 #[.val (.ref a1), .val (.int (19 : Int32))] []) := by first | (simp [entryFrame, mkF, argsToLocals, Value.category]; done) | rfl
  rw [ef]
  refine own_go (fun t k => XS.iconst X0.here hx rfl (hb hby d3_0) k) ?_
  show own_G p e below _ T0 (mkF m 1 #[.val (.ref a1), .val (.int (19 : Int32))] [(.int (2 : Int32))])
  refine own_go (fun t k => XS.aloadN X0.here hx rfl (hb hby d3_1) rfl rfl k) ?_
  show own_G p e below _ T0 (mkF m 2 #[.val (.ref a1), .val (.int (19 : Int32))] [(.ref a1), (.int (2 : Int32))])
  refine own_go (fun t k => XS.iloadN X0.here hx rfl (hb hby d3_2) rfl k) ?_
  show own_G p e below _ T0 (mkF m 3 #[.val (.ref a1), .val (.int (19 : Int32))] [(.int (19 : Int32)), (.ref a1), (.int (2 : Int32))])
  obtain ⟨T1, L1, v1, X1, ⟨rfl, rfl, q1⟩, st1⟩ := own_callS X0 hx hZ (y := (⟨"com/example/compensa/compensa/CheckDigitsGeneralDigitPinLaw", "d", "([CI)I"⟩ : MethodName)) hown (hw _ (List.mem_of_getElem? (i := 13) rfl)) (hw _ (List.mem_of_getElem? (i := 14) rfl)) (hw _ (List.mem_of_getElem? (i := 3) rfl)) (hw _ (List.mem_of_getElem? (i := 15) rfl)) (by decide) (c_d l Z a0 hw a1 cl (19 : Int32) (W 19) h0 Ar (own_in hsz (by decide)) (hat 19 (by decide))) e0 (argsL := [(.ref a1), (.int (19 : Int32))]) (rest := [(.int (2 : Int32))]) (g := (mkF m 3 #[.val (.ref a1), .val (.int (19 : Int32))] [(.int (19 : Int32)), (.ref a1), (.int (2 : Int32))])) rfl (by rw [hml]; rfl) (ps := [(.array .char), .int]) (r := (some .int)) (by decide +kernel) rfl rfl (W := 1) (by show 2 * 0 + _ ≤ _; exact Nat.le_of_eq rfl) (hb hby d3_3) (by decide) (by decide) (by decide) (by decide)
  refine own_go st1 ?_
  show own_G p e below _ T1 (mkF m 6 #[.val (.ref a1), .val (.int (19 : Int32))] [(.int (W 19 - (48 : Int32))), (.int (2 : Int32))])
  refine own_go (fun t k => XS.imul X1.here hx rfl (hb hby d3_6) rfl k) ?_
  show own_G p e below _ T1 (mkF m 7 #[.val (.ref a1), .val (.int (19 : Int32))] [(.int ((2 : Int32) * (W 19 - (48 : Int32))))])
  refine own_go (fun t k => XS.iconst X1.here hx rfl (hb hby d3_7) k) ?_
  show own_G p e below _ T1 (mkF m 8 #[.val (.ref a1), .val (.int (19 : Int32))] [(.int (3 : Int32)), (.int ((2 : Int32) * (W 19 - (48 : Int32))))])
  refine own_go (fun t k => XS.aloadN X1.here hx rfl (hb hby d3_8) rfl rfl k) ?_
  show own_G p e below _ T1 (mkF m 9 #[.val (.ref a1), .val (.int (19 : Int32))] [(.ref a1), (.int (3 : Int32)), (.int ((2 : Int32) * (W 19 - (48 : Int32))))])
  refine own_go (fun t k => XS.iloadN X1.here hx rfl (hb hby d3_9) rfl k) ?_
  show own_G p e below _ T1 (mkF m 10 #[.val (.ref a1), .val (.int (19 : Int32))] [(.int (19 : Int32)), (.ref a1), (.int (3 : Int32)), (.int ((2 : Int32) * (W 19 - (48 : Int32))))])
  refine own_go (fun t k => XS.iconst X1.here hx rfl (hb hby d3_10) k) ?_
  show own_G p e below _ T1 (mkF m 11 #[.val (.ref a1), .val (.int (19 : Int32))] [(.int (1 : Int32)), (.int (19 : Int32)), (.ref a1), (.int (3 : Int32)), (.int ((2 : Int32) * (W 19 - (48 : Int32))))])
  refine own_go (fun t k => XS.isub X1.here hx rfl (hb hby d3_11) rfl k) ?_
  show own_G p e below _ T1 (mkF m 12 #[.val (.ref a1), .val (.int (19 : Int32))] [(.int (18 : Int32)), (.ref a1), (.int (3 : Int32)), (.int ((2 : Int32) * (W 19 - (48 : Int32))))])
  obtain ⟨T2, L2, v2, X2, ⟨rfl, rfl, q2⟩, st2⟩ := own_callS X1 hx hZ (y := (⟨"com/example/compensa/compensa/CheckDigitsGeneralDigitPinLaw", "d", "([CI)I"⟩ : MethodName)) hown (hw _ (List.mem_of_getElem? (i := 13) rfl)) (hw _ (List.mem_of_getElem? (i := 14) rfl)) (hw _ (List.mem_of_getElem? (i := 3) rfl)) (hw _ (List.mem_of_getElem? (i := 15) rfl)) (by decide) (c_d l Z a0 hw a1 cl (18 : Int32) (W 18) h0 Ar (own_in hsz (by decide)) (hat 18 (by decide))) q1 (argsL := [(.ref a1), (.int (18 : Int32))]) (rest := [(.int (3 : Int32)), (.int ((2 : Int32) * (W 19 - (48 : Int32))))]) (g := (mkF m 12 #[.val (.ref a1), .val (.int (19 : Int32))] [(.int (18 : Int32)), (.ref a1), (.int (3 : Int32)), (.int ((2 : Int32) * (W 19 - (48 : Int32))))])) rfl (by rw [hml]; rfl) (ps := [(.array .char), .int]) (r := (some .int)) (by decide +kernel) rfl rfl (W := 2) (by show 2 * 0 + _ ≤ _; exact Nat.le_of_eq rfl) (hb hby d3_12) (by decide) (by decide) (by decide) (by decide)
  refine own_go st2 ?_
  show own_G p e below _ T2 (mkF m 15 #[.val (.ref a1), .val (.int (19 : Int32))] [(.int (W 18 - (48 : Int32))), (.int (3 : Int32)), (.int ((2 : Int32) * (W 19 - (48 : Int32))))])
  refine own_go (fun t k => XS.imul X2.here hx rfl (hb hby d3_15) rfl k) ?_
  show own_G p e below _ T2 (mkF m 16 #[.val (.ref a1), .val (.int (19 : Int32))] [(.int ((3 : Int32) * (W 18 - (48 : Int32)))), (.int ((2 : Int32) * (W 19 - (48 : Int32))))])
  refine own_go (fun t k => XS.iadd X2.here hx rfl (hb hby d3_16) rfl k) ?_
  show own_G p e below _ T2 (mkF m 17 #[.val (.ref a1), .val (.int (19 : Int32))] [(.int (((2 : Int32) * (W 19 - (48 : Int32))) + ((3 : Int32) * (W 18 - (48 : Int32)))))])
  refine own_go (fun t k => XS.iconst X2.here hx rfl (hb hby d3_17) k) ?_
  show own_G p e below _ T2 (mkF m 18 #[.val (.ref a1), .val (.int (19 : Int32))] [(.int (4 : Int32)), (.int (((2 : Int32) * (W 19 - (48 : Int32))) + ((3 : Int32) * (W 18 - (48 : Int32)))))])
  refine own_go (fun t k => XS.aloadN X2.here hx rfl (hb hby d3_18) rfl rfl k) ?_
  show own_G p e below _ T2 (mkF m 19 #[.val (.ref a1), .val (.int (19 : Int32))] [(.ref a1), (.int (4 : Int32)), (.int (((2 : Int32) * (W 19 - (48 : Int32))) + ((3 : Int32) * (W 18 - (48 : Int32)))))])
  refine own_go (fun t k => XS.iloadN X2.here hx rfl (hb hby d3_19) rfl k) ?_
  show own_G p e below _ T2 (mkF m 20 #[.val (.ref a1), .val (.int (19 : Int32))] [(.int (19 : Int32)), (.ref a1), (.int (4 : Int32)), (.int (((2 : Int32) * (W 19 - (48 : Int32))) + ((3 : Int32) * (W 18 - (48 : Int32)))))])
  refine own_go (fun t k => XS.iconst X2.here hx rfl (hb hby d3_20) k) ?_
  show own_G p e below _ T2 (mkF m 21 #[.val (.ref a1), .val (.int (19 : Int32))] [(.int (2 : Int32)), (.int (19 : Int32)), (.ref a1), (.int (4 : Int32)), (.int (((2 : Int32) * (W 19 - (48 : Int32))) + ((3 : Int32) * (W 18 - (48 : Int32)))))])
  refine own_go (fun t k => XS.isub X2.here hx rfl (hb hby d3_21) rfl k) ?_
  show own_G p e below _ T2 (mkF m 22 #[.val (.ref a1), .val (.int (19 : Int32))] [(.int (17 : Int32)), (.ref a1), (.int (4 : Int32)), (.int (((2 : Int32) * (W 19 - (48 : Int32))) + ((3 : Int32) * (W 18 - (48 : Int32)))))])
  obtain ⟨T3, L3, v3, X3, ⟨rfl, rfl, q3⟩, st3⟩ := own_callS X2 hx hZ (y := (⟨"com/example/compensa/compensa/CheckDigitsGeneralDigitPinLaw", "d", "([CI)I"⟩ : MethodName)) hown (hw _ (List.mem_of_getElem? (i := 13) rfl)) (hw _ (List.mem_of_getElem? (i := 14) rfl)) (hw _ (List.mem_of_getElem? (i := 3) rfl)) (hw _ (List.mem_of_getElem? (i := 15) rfl)) (by decide) (c_d l Z a0 hw a1 cl (17 : Int32) (W 17) h0 Ar (own_in hsz (by decide)) (hat 17 (by decide))) q2 (argsL := [(.ref a1), (.int (17 : Int32))]) (rest := [(.int (4 : Int32)), (.int (((2 : Int32) * (W 19 - (48 : Int32))) + ((3 : Int32) * (W 18 - (48 : Int32)))))]) (g := (mkF m 22 #[.val (.ref a1), .val (.int (19 : Int32))] [(.int (17 : Int32)), (.ref a1), (.int (4 : Int32)), (.int (((2 : Int32) * (W 19 - (48 : Int32))) + ((3 : Int32) * (W 18 - (48 : Int32)))))])) rfl (by rw [hml]; rfl) (ps := [(.array .char), .int]) (r := (some .int)) (by decide +kernel) rfl rfl (W := 2) (by show 2 * 0 + _ ≤ _; exact Nat.le_of_eq rfl) (hb hby d3_22) (by decide) (by decide) (by decide) (by decide)
  refine own_go st3 ?_
  show own_G p e below _ T3 (mkF m 25 #[.val (.ref a1), .val (.int (19 : Int32))] [(.int (W 17 - (48 : Int32))), (.int (4 : Int32)), (.int (((2 : Int32) * (W 19 - (48 : Int32))) + ((3 : Int32) * (W 18 - (48 : Int32)))))])
  refine own_go (fun t k => XS.imul X3.here hx rfl (hb hby d3_25) rfl k) ?_
  show own_G p e below _ T3 (mkF m 26 #[.val (.ref a1), .val (.int (19 : Int32))] [(.int ((4 : Int32) * (W 17 - (48 : Int32)))), (.int (((2 : Int32) * (W 19 - (48 : Int32))) + ((3 : Int32) * (W 18 - (48 : Int32)))))])
  refine own_go (fun t k => XS.iadd X3.here hx rfl (hb hby d3_26) rfl k) ?_
  show own_G p e below _ T3 (mkF m 27 #[.val (.ref a1), .val (.int (19 : Int32))] [(.int ((((2 : Int32) * (W 19 - (48 : Int32))) + ((3 : Int32) * (W 18 - (48 : Int32)))) + ((4 : Int32) * (W 17 - (48 : Int32)))))])
  refine own_go (fun t k => XS.iconst X3.here hx rfl (hb hby d3_27) k) ?_
  show own_G p e below _ T3 (mkF m 28 #[.val (.ref a1), .val (.int (19 : Int32))] [(.int (5 : Int32)), (.int ((((2 : Int32) * (W 19 - (48 : Int32))) + ((3 : Int32) * (W 18 - (48 : Int32)))) + ((4 : Int32) * (W 17 - (48 : Int32)))))])
  refine own_go (fun t k => XS.aloadN X3.here hx rfl (hb hby d3_28) rfl rfl k) ?_
  show own_G p e below _ T3 (mkF m 29 #[.val (.ref a1), .val (.int (19 : Int32))] [(.ref a1), (.int (5 : Int32)), (.int ((((2 : Int32) * (W 19 - (48 : Int32))) + ((3 : Int32) * (W 18 - (48 : Int32)))) + ((4 : Int32) * (W 17 - (48 : Int32)))))])
  refine own_go (fun t k => XS.iloadN X3.here hx rfl (hb hby d3_29) rfl k) ?_
  show own_G p e below _ T3 (mkF m 30 #[.val (.ref a1), .val (.int (19 : Int32))] [(.int (19 : Int32)), (.ref a1), (.int (5 : Int32)), (.int ((((2 : Int32) * (W 19 - (48 : Int32))) + ((3 : Int32) * (W 18 - (48 : Int32)))) + ((4 : Int32) * (W 17 - (48 : Int32)))))])
  refine own_go (fun t k => XS.iconst X3.here hx rfl (hb hby d3_30) k) ?_
  show own_G p e below _ T3 (mkF m 31 #[.val (.ref a1), .val (.int (19 : Int32))] [(.int (3 : Int32)), (.int (19 : Int32)), (.ref a1), (.int (5 : Int32)), (.int ((((2 : Int32) * (W 19 - (48 : Int32))) + ((3 : Int32) * (W 18 - (48 : Int32)))) + ((4 : Int32) * (W 17 - (48 : Int32)))))])
  refine own_go (fun t k => XS.isub X3.here hx rfl (hb hby d3_31) rfl k) ?_
  show own_G p e below _ T3 (mkF m 32 #[.val (.ref a1), .val (.int (19 : Int32))] [(.int (16 : Int32)), (.ref a1), (.int (5 : Int32)), (.int ((((2 : Int32) * (W 19 - (48 : Int32))) + ((3 : Int32) * (W 18 - (48 : Int32)))) + ((4 : Int32) * (W 17 - (48 : Int32)))))])
  obtain ⟨T4, L4, v4, X4, ⟨rfl, rfl, q4⟩, st4⟩ := own_callS X3 hx hZ (y := (⟨"com/example/compensa/compensa/CheckDigitsGeneralDigitPinLaw", "d", "([CI)I"⟩ : MethodName)) hown (hw _ (List.mem_of_getElem? (i := 13) rfl)) (hw _ (List.mem_of_getElem? (i := 14) rfl)) (hw _ (List.mem_of_getElem? (i := 3) rfl)) (hw _ (List.mem_of_getElem? (i := 15) rfl)) (by decide) (c_d l Z a0 hw a1 cl (16 : Int32) (W 16) h0 Ar (own_in hsz (by decide)) (hat 16 (by decide))) q3 (argsL := [(.ref a1), (.int (16 : Int32))]) (rest := [(.int (5 : Int32)), (.int ((((2 : Int32) * (W 19 - (48 : Int32))) + ((3 : Int32) * (W 18 - (48 : Int32)))) + ((4 : Int32) * (W 17 - (48 : Int32)))))]) (g := (mkF m 32 #[.val (.ref a1), .val (.int (19 : Int32))] [(.int (16 : Int32)), (.ref a1), (.int (5 : Int32)), (.int ((((2 : Int32) * (W 19 - (48 : Int32))) + ((3 : Int32) * (W 18 - (48 : Int32)))) + ((4 : Int32) * (W 17 - (48 : Int32)))))])) rfl (by rw [hml]; rfl) (ps := [(.array .char), .int]) (r := (some .int)) (by decide +kernel) rfl rfl (W := 2) (by show 2 * 0 + _ ≤ _; exact Nat.le_of_eq rfl) (hb hby d3_32) (by decide) (by decide) (by decide) (by decide)
  refine own_go st4 ?_
  show own_G p e below _ T4 (mkF m 35 #[.val (.ref a1), .val (.int (19 : Int32))] [(.int (W 16 - (48 : Int32))), (.int (5 : Int32)), (.int ((((2 : Int32) * (W 19 - (48 : Int32))) + ((3 : Int32) * (W 18 - (48 : Int32)))) + ((4 : Int32) * (W 17 - (48 : Int32)))))])
  refine own_go (fun t k => XS.imul X4.here hx rfl (hb hby d3_35) rfl k) ?_
  show own_G p e below _ T4 (mkF m 36 #[.val (.ref a1), .val (.int (19 : Int32))] [(.int ((5 : Int32) * (W 16 - (48 : Int32)))), (.int ((((2 : Int32) * (W 19 - (48 : Int32))) + ((3 : Int32) * (W 18 - (48 : Int32)))) + ((4 : Int32) * (W 17 - (48 : Int32)))))])
  refine own_go (fun t k => XS.iadd X4.here hx rfl (hb hby d3_36) rfl k) ?_
  show own_G p e below _ T4 (mkF m 37 #[.val (.ref a1), .val (.int (19 : Int32))] [(.int (((((2 : Int32) * (W 19 - (48 : Int32))) + ((3 : Int32) * (W 18 - (48 : Int32)))) + ((4 : Int32) * (W 17 - (48 : Int32)))) + ((5 : Int32) * (W 16 - (48 : Int32)))))])
  refine own_go (fun t k => XS.bipush X4.here hx rfl (hb hby d3_37) k) ?_
  show own_G p e below _ T4 (mkF m 39 #[.val (.ref a1), .val (.int (19 : Int32))] [(.int (6 : Int32)), (.int (((((2 : Int32) * (W 19 - (48 : Int32))) + ((3 : Int32) * (W 18 - (48 : Int32)))) + ((4 : Int32) * (W 17 - (48 : Int32)))) + ((5 : Int32) * (W 16 - (48 : Int32)))))])
  refine own_go (fun t k => XS.aloadN X4.here hx rfl (hb hby d3_39) rfl rfl k) ?_
  show own_G p e below _ T4 (mkF m 40 #[.val (.ref a1), .val (.int (19 : Int32))] [(.ref a1), (.int (6 : Int32)), (.int (((((2 : Int32) * (W 19 - (48 : Int32))) + ((3 : Int32) * (W 18 - (48 : Int32)))) + ((4 : Int32) * (W 17 - (48 : Int32)))) + ((5 : Int32) * (W 16 - (48 : Int32)))))])
  refine own_go (fun t k => XS.iloadN X4.here hx rfl (hb hby d3_40) rfl k) ?_
  show own_G p e below _ T4 (mkF m 41 #[.val (.ref a1), .val (.int (19 : Int32))] [(.int (19 : Int32)), (.ref a1), (.int (6 : Int32)), (.int (((((2 : Int32) * (W 19 - (48 : Int32))) + ((3 : Int32) * (W 18 - (48 : Int32)))) + ((4 : Int32) * (W 17 - (48 : Int32)))) + ((5 : Int32) * (W 16 - (48 : Int32)))))])
  refine own_go (fun t k => XS.iconst X4.here hx rfl (hb hby d3_41) k) ?_
  show own_G p e below _ T4 (mkF m 42 #[.val (.ref a1), .val (.int (19 : Int32))] [(.int (4 : Int32)), (.int (19 : Int32)), (.ref a1), (.int (6 : Int32)), (.int (((((2 : Int32) * (W 19 - (48 : Int32))) + ((3 : Int32) * (W 18 - (48 : Int32)))) + ((4 : Int32) * (W 17 - (48 : Int32)))) + ((5 : Int32) * (W 16 - (48 : Int32)))))])
  refine own_go (fun t k => XS.isub X4.here hx rfl (hb hby d3_42) rfl k) ?_
  show own_G p e below _ T4 (mkF m 43 #[.val (.ref a1), .val (.int (19 : Int32))] [(.int (15 : Int32)), (.ref a1), (.int (6 : Int32)), (.int (((((2 : Int32) * (W 19 - (48 : Int32))) + ((3 : Int32) * (W 18 - (48 : Int32)))) + ((4 : Int32) * (W 17 - (48 : Int32)))) + ((5 : Int32) * (W 16 - (48 : Int32)))))])
  obtain ⟨T5, L5, v5, X5, ⟨rfl, rfl, q5⟩, st5⟩ := own_callS X4 hx hZ (y := (⟨"com/example/compensa/compensa/CheckDigitsGeneralDigitPinLaw", "d", "([CI)I"⟩ : MethodName)) hown (hw _ (List.mem_of_getElem? (i := 13) rfl)) (hw _ (List.mem_of_getElem? (i := 14) rfl)) (hw _ (List.mem_of_getElem? (i := 3) rfl)) (hw _ (List.mem_of_getElem? (i := 15) rfl)) (by decide) (c_d l Z a0 hw a1 cl (15 : Int32) (W 15) h0 Ar (own_in hsz (by decide)) (hat 15 (by decide))) q4 (argsL := [(.ref a1), (.int (15 : Int32))]) (rest := [(.int (6 : Int32)), (.int (((((2 : Int32) * (W 19 - (48 : Int32))) + ((3 : Int32) * (W 18 - (48 : Int32)))) + ((4 : Int32) * (W 17 - (48 : Int32)))) + ((5 : Int32) * (W 16 - (48 : Int32)))))]) (g := (mkF m 43 #[.val (.ref a1), .val (.int (19 : Int32))] [(.int (15 : Int32)), (.ref a1), (.int (6 : Int32)), (.int (((((2 : Int32) * (W 19 - (48 : Int32))) + ((3 : Int32) * (W 18 - (48 : Int32)))) + ((4 : Int32) * (W 17 - (48 : Int32)))) + ((5 : Int32) * (W 16 - (48 : Int32)))))])) rfl (by rw [hml]; rfl) (ps := [(.array .char), .int]) (r := (some .int)) (by decide +kernel) rfl rfl (W := 2) (by show 2 * 0 + _ ≤ _; exact Nat.le_of_eq rfl) (hb hby d3_43) (by decide) (by decide) (by decide) (by decide)
  refine own_go st5 ?_
  show own_G p e below _ T5 (mkF m 46 #[.val (.ref a1), .val (.int (19 : Int32))] [(.int (W 15 - (48 : Int32))), (.int (6 : Int32)), (.int (((((2 : Int32) * (W 19 - (48 : Int32))) + ((3 : Int32) * (W 18 - (48 : Int32)))) + ((4 : Int32) * (W 17 - (48 : Int32)))) + ((5 : Int32) * (W 16 - (48 : Int32)))))])
  refine own_go (fun t k => XS.imul X5.here hx rfl (hb hby d3_46) rfl k) ?_
  show own_G p e below _ T5 (mkF m 47 #[.val (.ref a1), .val (.int (19 : Int32))] [(.int ((6 : Int32) * (W 15 - (48 : Int32)))), (.int (((((2 : Int32) * (W 19 - (48 : Int32))) + ((3 : Int32) * (W 18 - (48 : Int32)))) + ((4 : Int32) * (W 17 - (48 : Int32)))) + ((5 : Int32) * (W 16 - (48 : Int32)))))])
  refine own_go (fun t k => XS.iadd X5.here hx rfl (hb hby d3_47) rfl k) ?_
  show own_G p e below _ T5 (mkF m 48 #[.val (.ref a1), .val (.int (19 : Int32))] [(.int ((((((2 : Int32) * (W 19 - (48 : Int32))) + ((3 : Int32) * (W 18 - (48 : Int32)))) + ((4 : Int32) * (W 17 - (48 : Int32)))) + ((5 : Int32) * (W 16 - (48 : Int32)))) + ((6 : Int32) * (W 15 - (48 : Int32)))))])
  refine own_go (fun t k => XS.bipush X5.here hx rfl (hb hby d3_48) k) ?_
  show own_G p e below _ T5 (mkF m 50 #[.val (.ref a1), .val (.int (19 : Int32))] [(.int (7 : Int32)), (.int ((((((2 : Int32) * (W 19 - (48 : Int32))) + ((3 : Int32) * (W 18 - (48 : Int32)))) + ((4 : Int32) * (W 17 - (48 : Int32)))) + ((5 : Int32) * (W 16 - (48 : Int32)))) + ((6 : Int32) * (W 15 - (48 : Int32)))))])
  refine own_go (fun t k => XS.aloadN X5.here hx rfl (hb hby d3_50) rfl rfl k) ?_
  show own_G p e below _ T5 (mkF m 51 #[.val (.ref a1), .val (.int (19 : Int32))] [(.ref a1), (.int (7 : Int32)), (.int ((((((2 : Int32) * (W 19 - (48 : Int32))) + ((3 : Int32) * (W 18 - (48 : Int32)))) + ((4 : Int32) * (W 17 - (48 : Int32)))) + ((5 : Int32) * (W 16 - (48 : Int32)))) + ((6 : Int32) * (W 15 - (48 : Int32)))))])
  refine own_go (fun t k => XS.iloadN X5.here hx rfl (hb hby d3_51) rfl k) ?_
  show own_G p e below _ T5 (mkF m 52 #[.val (.ref a1), .val (.int (19 : Int32))] [(.int (19 : Int32)), (.ref a1), (.int (7 : Int32)), (.int ((((((2 : Int32) * (W 19 - (48 : Int32))) + ((3 : Int32) * (W 18 - (48 : Int32)))) + ((4 : Int32) * (W 17 - (48 : Int32)))) + ((5 : Int32) * (W 16 - (48 : Int32)))) + ((6 : Int32) * (W 15 - (48 : Int32)))))])
  refine own_go (fun t k => XS.iconst X5.here hx rfl (hb hby d3_52) k) ?_
  show own_G p e below _ T5 (mkF m 53 #[.val (.ref a1), .val (.int (19 : Int32))] [(.int (5 : Int32)), (.int (19 : Int32)), (.ref a1), (.int (7 : Int32)), (.int ((((((2 : Int32) * (W 19 - (48 : Int32))) + ((3 : Int32) * (W 18 - (48 : Int32)))) + ((4 : Int32) * (W 17 - (48 : Int32)))) + ((5 : Int32) * (W 16 - (48 : Int32)))) + ((6 : Int32) * (W 15 - (48 : Int32)))))])
  refine own_go (fun t k => XS.isub X5.here hx rfl (hb hby d3_53) rfl k) ?_
  show own_G p e below _ T5 (mkF m 54 #[.val (.ref a1), .val (.int (19 : Int32))] [(.int (14 : Int32)), (.ref a1), (.int (7 : Int32)), (.int ((((((2 : Int32) * (W 19 - (48 : Int32))) + ((3 : Int32) * (W 18 - (48 : Int32)))) + ((4 : Int32) * (W 17 - (48 : Int32)))) + ((5 : Int32) * (W 16 - (48 : Int32)))) + ((6 : Int32) * (W 15 - (48 : Int32)))))])
  obtain ⟨T6, L6, v6, X6, ⟨rfl, rfl, q6⟩, st6⟩ := own_callS X5 hx hZ (y := (⟨"com/example/compensa/compensa/CheckDigitsGeneralDigitPinLaw", "d", "([CI)I"⟩ : MethodName)) hown (hw _ (List.mem_of_getElem? (i := 13) rfl)) (hw _ (List.mem_of_getElem? (i := 14) rfl)) (hw _ (List.mem_of_getElem? (i := 3) rfl)) (hw _ (List.mem_of_getElem? (i := 15) rfl)) (by decide) (c_d l Z a0 hw a1 cl (14 : Int32) (W 14) h0 Ar (own_in hsz (by decide)) (hat 14 (by decide))) q5 (argsL := [(.ref a1), (.int (14 : Int32))]) (rest := [(.int (7 : Int32)), (.int ((((((2 : Int32) * (W 19 - (48 : Int32))) + ((3 : Int32) * (W 18 - (48 : Int32)))) + ((4 : Int32) * (W 17 - (48 : Int32)))) + ((5 : Int32) * (W 16 - (48 : Int32)))) + ((6 : Int32) * (W 15 - (48 : Int32)))))]) (g := (mkF m 54 #[.val (.ref a1), .val (.int (19 : Int32))] [(.int (14 : Int32)), (.ref a1), (.int (7 : Int32)), (.int ((((((2 : Int32) * (W 19 - (48 : Int32))) + ((3 : Int32) * (W 18 - (48 : Int32)))) + ((4 : Int32) * (W 17 - (48 : Int32)))) + ((5 : Int32) * (W 16 - (48 : Int32)))) + ((6 : Int32) * (W 15 - (48 : Int32)))))])) rfl (by rw [hml]; rfl) (ps := [(.array .char), .int]) (r := (some .int)) (by decide +kernel) rfl rfl (W := 2) (by show 2 * 0 + _ ≤ _; exact Nat.le_of_eq rfl) (hb hby d3_54) (by decide) (by decide) (by decide) (by decide)
  refine own_go st6 ?_
  show own_G p e below _ T6 (mkF m 57 #[.val (.ref a1), .val (.int (19 : Int32))] [(.int (W 14 - (48 : Int32))), (.int (7 : Int32)), (.int ((((((2 : Int32) * (W 19 - (48 : Int32))) + ((3 : Int32) * (W 18 - (48 : Int32)))) + ((4 : Int32) * (W 17 - (48 : Int32)))) + ((5 : Int32) * (W 16 - (48 : Int32)))) + ((6 : Int32) * (W 15 - (48 : Int32)))))])
  refine own_go (fun t k => XS.imul X6.here hx rfl (hb hby d3_57) rfl k) ?_
  show own_G p e below _ T6 (mkF m 58 #[.val (.ref a1), .val (.int (19 : Int32))] [(.int ((7 : Int32) * (W 14 - (48 : Int32)))), (.int ((((((2 : Int32) * (W 19 - (48 : Int32))) + ((3 : Int32) * (W 18 - (48 : Int32)))) + ((4 : Int32) * (W 17 - (48 : Int32)))) + ((5 : Int32) * (W 16 - (48 : Int32)))) + ((6 : Int32) * (W 15 - (48 : Int32)))))])
  refine own_go (fun t k => XS.iadd X6.here hx rfl (hb hby d3_58) rfl k) ?_
  show own_G p e below _ T6 (mkF m 59 #[.val (.ref a1), .val (.int (19 : Int32))] [(.int (((((((2 : Int32) * (W 19 - (48 : Int32))) + ((3 : Int32) * (W 18 - (48 : Int32)))) + ((4 : Int32) * (W 17 - (48 : Int32)))) + ((5 : Int32) * (W 16 - (48 : Int32)))) + ((6 : Int32) * (W 15 - (48 : Int32)))) + ((7 : Int32) * (W 14 - (48 : Int32)))))])
  refine own_go (fun t k => XS.bipush X6.here hx rfl (hb hby d3_59) k) ?_
  show own_G p e below _ T6 (mkF m 61 #[.val (.ref a1), .val (.int (19 : Int32))] [(.int (8 : Int32)), (.int (((((((2 : Int32) * (W 19 - (48 : Int32))) + ((3 : Int32) * (W 18 - (48 : Int32)))) + ((4 : Int32) * (W 17 - (48 : Int32)))) + ((5 : Int32) * (W 16 - (48 : Int32)))) + ((6 : Int32) * (W 15 - (48 : Int32)))) + ((7 : Int32) * (W 14 - (48 : Int32)))))])
  refine own_go (fun t k => XS.aloadN X6.here hx rfl (hb hby d3_61) rfl rfl k) ?_
  show own_G p e below _ T6 (mkF m 62 #[.val (.ref a1), .val (.int (19 : Int32))] [(.ref a1), (.int (8 : Int32)), (.int (((((((2 : Int32) * (W 19 - (48 : Int32))) + ((3 : Int32) * (W 18 - (48 : Int32)))) + ((4 : Int32) * (W 17 - (48 : Int32)))) + ((5 : Int32) * (W 16 - (48 : Int32)))) + ((6 : Int32) * (W 15 - (48 : Int32)))) + ((7 : Int32) * (W 14 - (48 : Int32)))))])
  refine own_go (fun t k => XS.iloadN X6.here hx rfl (hb hby d3_62) rfl k) ?_
  show own_G p e below _ T6 (mkF m 63 #[.val (.ref a1), .val (.int (19 : Int32))] [(.int (19 : Int32)), (.ref a1), (.int (8 : Int32)), (.int (((((((2 : Int32) * (W 19 - (48 : Int32))) + ((3 : Int32) * (W 18 - (48 : Int32)))) + ((4 : Int32) * (W 17 - (48 : Int32)))) + ((5 : Int32) * (W 16 - (48 : Int32)))) + ((6 : Int32) * (W 15 - (48 : Int32)))) + ((7 : Int32) * (W 14 - (48 : Int32)))))])
  refine own_go (fun t k => XS.bipush X6.here hx rfl (hb hby d3_63) k) ?_
  show own_G p e below _ T6 (mkF m 65 #[.val (.ref a1), .val (.int (19 : Int32))] [(.int (6 : Int32)), (.int (19 : Int32)), (.ref a1), (.int (8 : Int32)), (.int (((((((2 : Int32) * (W 19 - (48 : Int32))) + ((3 : Int32) * (W 18 - (48 : Int32)))) + ((4 : Int32) * (W 17 - (48 : Int32)))) + ((5 : Int32) * (W 16 - (48 : Int32)))) + ((6 : Int32) * (W 15 - (48 : Int32)))) + ((7 : Int32) * (W 14 - (48 : Int32)))))])
  refine own_go (fun t k => XS.isub X6.here hx rfl (hb hby d3_65) rfl k) ?_
  show own_G p e below _ T6 (mkF m 66 #[.val (.ref a1), .val (.int (19 : Int32))] [(.int (13 : Int32)), (.ref a1), (.int (8 : Int32)), (.int (((((((2 : Int32) * (W 19 - (48 : Int32))) + ((3 : Int32) * (W 18 - (48 : Int32)))) + ((4 : Int32) * (W 17 - (48 : Int32)))) + ((5 : Int32) * (W 16 - (48 : Int32)))) + ((6 : Int32) * (W 15 - (48 : Int32)))) + ((7 : Int32) * (W 14 - (48 : Int32)))))])
  obtain ⟨T7, L7, v7, X7, ⟨rfl, rfl, q7⟩, st7⟩ := own_callS X6 hx hZ (y := (⟨"com/example/compensa/compensa/CheckDigitsGeneralDigitPinLaw", "d", "([CI)I"⟩ : MethodName)) hown (hw _ (List.mem_of_getElem? (i := 13) rfl)) (hw _ (List.mem_of_getElem? (i := 14) rfl)) (hw _ (List.mem_of_getElem? (i := 3) rfl)) (hw _ (List.mem_of_getElem? (i := 15) rfl)) (by decide) (c_d l Z a0 hw a1 cl (13 : Int32) (W 13) h0 Ar (own_in hsz (by decide)) (hat 13 (by decide))) q6 (argsL := [(.ref a1), (.int (13 : Int32))]) (rest := [(.int (8 : Int32)), (.int (((((((2 : Int32) * (W 19 - (48 : Int32))) + ((3 : Int32) * (W 18 - (48 : Int32)))) + ((4 : Int32) * (W 17 - (48 : Int32)))) + ((5 : Int32) * (W 16 - (48 : Int32)))) + ((6 : Int32) * (W 15 - (48 : Int32)))) + ((7 : Int32) * (W 14 - (48 : Int32)))))]) (g := (mkF m 66 #[.val (.ref a1), .val (.int (19 : Int32))] [(.int (13 : Int32)), (.ref a1), (.int (8 : Int32)), (.int (((((((2 : Int32) * (W 19 - (48 : Int32))) + ((3 : Int32) * (W 18 - (48 : Int32)))) + ((4 : Int32) * (W 17 - (48 : Int32)))) + ((5 : Int32) * (W 16 - (48 : Int32)))) + ((6 : Int32) * (W 15 - (48 : Int32)))) + ((7 : Int32) * (W 14 - (48 : Int32)))))])) rfl (by rw [hml]; rfl) (ps := [(.array .char), .int]) (r := (some .int)) (by decide +kernel) rfl rfl (W := 2) (by show 2 * 0 + _ ≤ _; exact Nat.le_of_eq rfl) (hb hby d3_66) (by decide) (by decide) (by decide) (by decide)
  refine own_go st7 ?_
  show own_G p e below _ T7 (mkF m 69 #[.val (.ref a1), .val (.int (19 : Int32))] [(.int (W 13 - (48 : Int32))), (.int (8 : Int32)), (.int (((((((2 : Int32) * (W 19 - (48 : Int32))) + ((3 : Int32) * (W 18 - (48 : Int32)))) + ((4 : Int32) * (W 17 - (48 : Int32)))) + ((5 : Int32) * (W 16 - (48 : Int32)))) + ((6 : Int32) * (W 15 - (48 : Int32)))) + ((7 : Int32) * (W 14 - (48 : Int32)))))])
  refine own_go (fun t k => XS.imul X7.here hx rfl (hb hby d3_69) rfl k) ?_
  show own_G p e below _ T7 (mkF m 70 #[.val (.ref a1), .val (.int (19 : Int32))] [(.int ((8 : Int32) * (W 13 - (48 : Int32)))), (.int (((((((2 : Int32) * (W 19 - (48 : Int32))) + ((3 : Int32) * (W 18 - (48 : Int32)))) + ((4 : Int32) * (W 17 - (48 : Int32)))) + ((5 : Int32) * (W 16 - (48 : Int32)))) + ((6 : Int32) * (W 15 - (48 : Int32)))) + ((7 : Int32) * (W 14 - (48 : Int32)))))])
  refine own_go (fun t k => XS.iadd X7.here hx rfl (hb hby d3_70) rfl k) ?_
  show own_G p e below _ T7 (mkF m 71 #[.val (.ref a1), .val (.int (19 : Int32))] [(.int ((((((((2 : Int32) * (W 19 - (48 : Int32))) + ((3 : Int32) * (W 18 - (48 : Int32)))) + ((4 : Int32) * (W 17 - (48 : Int32)))) + ((5 : Int32) * (W 16 - (48 : Int32)))) + ((6 : Int32) * (W 15 - (48 : Int32)))) + ((7 : Int32) * (W 14 - (48 : Int32)))) + ((8 : Int32) * (W 13 - (48 : Int32)))))])
  exact own_retI X7 hx hlk hret (hb hby d3_71) (by decide) (by decide) ⟨rfl, rfl, q7⟩
set_option maxRecDepth 65536 in
set_option maxHeartbeats 40000000 in
theorem c_run7_11 (l : Launch) (Z : State) (a0 : Array Value) (hw : ∀ d ∈ tables_1, d.before a0 Z = true) (a1 : Addr) (cl : Cell) (W : Nat → Int32) (h0 : Heap) (Ar : Arr Z h0 a1 cl .char) (hsz : cl.slots.size = 44) (hat : ∀ i, i < 44 → cl.slots[i]? = some (.int (W i))) :
    own_M l Z (⟨"com/example/compensa/compensa/CheckDigitsGeneralDigitPinLaw", "run7", "([CI)I"⟩ : MethodName) method_4_code 2 (some .int) ⟨1, 0, 0, 30⟩ #[.ref a1, .int (11 : Int32)] h0 (fun v h L => v = some (.int (own_r7 W 11)) ∧ L = [] ∧ h = h0) := by
  refine own_body pn_3 ?_
  intro p e s m below meth c T0 hx hby hml hlk hown hret hnm hZ X0 e0
  replace hown : s.vm.findClass "com/example/compensa/compensa/CheckDigitsGeneralDigitPinLaw" = some m.cls := hown
  replace hml : c.maxLocals = 2 := hml
  have ef : entryFrame m #[.ref a1, .int (11 : Int32)] 2 = (mkF m 0 #[.val (.ref a1), .val (.int (11 : Int32))] []) := by first | (simp [entryFrame, mkF, argsToLocals, Value.category]; done) | rfl
  rw [ef]
  refine own_go (fun t k => XS.iconst X0.here hx rfl (hb hby d3_0) k) ?_
  show own_G p e below _ T0 (mkF m 1 #[.val (.ref a1), .val (.int (11 : Int32))] [(.int (2 : Int32))])
  refine own_go (fun t k => XS.aloadN X0.here hx rfl (hb hby d3_1) rfl rfl k) ?_
  show own_G p e below _ T0 (mkF m 2 #[.val (.ref a1), .val (.int (11 : Int32))] [(.ref a1), (.int (2 : Int32))])
  refine own_go (fun t k => XS.iloadN X0.here hx rfl (hb hby d3_2) rfl k) ?_
  show own_G p e below _ T0 (mkF m 3 #[.val (.ref a1), .val (.int (11 : Int32))] [(.int (11 : Int32)), (.ref a1), (.int (2 : Int32))])
  obtain ⟨T1, L1, v1, X1, ⟨rfl, rfl, q1⟩, st1⟩ := own_callS X0 hx hZ (y := (⟨"com/example/compensa/compensa/CheckDigitsGeneralDigitPinLaw", "d", "([CI)I"⟩ : MethodName)) hown (hw _ (List.mem_of_getElem? (i := 13) rfl)) (hw _ (List.mem_of_getElem? (i := 14) rfl)) (hw _ (List.mem_of_getElem? (i := 3) rfl)) (hw _ (List.mem_of_getElem? (i := 15) rfl)) (by decide) (c_d l Z a0 hw a1 cl (11 : Int32) (W 11) h0 Ar (own_in hsz (by decide)) (hat 11 (by decide))) e0 (argsL := [(.ref a1), (.int (11 : Int32))]) (rest := [(.int (2 : Int32))]) (g := (mkF m 3 #[.val (.ref a1), .val (.int (11 : Int32))] [(.int (11 : Int32)), (.ref a1), (.int (2 : Int32))])) rfl (by rw [hml]; rfl) (ps := [(.array .char), .int]) (r := (some .int)) (by decide +kernel) rfl rfl (W := 1) (by show 2 * 0 + _ ≤ _; exact Nat.le_of_eq rfl) (hb hby d3_3) (by decide) (by decide) (by decide) (by decide)
  refine own_go st1 ?_
  show own_G p e below _ T1 (mkF m 6 #[.val (.ref a1), .val (.int (11 : Int32))] [(.int (W 11 - (48 : Int32))), (.int (2 : Int32))])
  refine own_go (fun t k => XS.imul X1.here hx rfl (hb hby d3_6) rfl k) ?_
  show own_G p e below _ T1 (mkF m 7 #[.val (.ref a1), .val (.int (11 : Int32))] [(.int ((2 : Int32) * (W 11 - (48 : Int32))))])
  refine own_go (fun t k => XS.iconst X1.here hx rfl (hb hby d3_7) k) ?_
  show own_G p e below _ T1 (mkF m 8 #[.val (.ref a1), .val (.int (11 : Int32))] [(.int (3 : Int32)), (.int ((2 : Int32) * (W 11 - (48 : Int32))))])
  refine own_go (fun t k => XS.aloadN X1.here hx rfl (hb hby d3_8) rfl rfl k) ?_
  show own_G p e below _ T1 (mkF m 9 #[.val (.ref a1), .val (.int (11 : Int32))] [(.ref a1), (.int (3 : Int32)), (.int ((2 : Int32) * (W 11 - (48 : Int32))))])
  refine own_go (fun t k => XS.iloadN X1.here hx rfl (hb hby d3_9) rfl k) ?_
  show own_G p e below _ T1 (mkF m 10 #[.val (.ref a1), .val (.int (11 : Int32))] [(.int (11 : Int32)), (.ref a1), (.int (3 : Int32)), (.int ((2 : Int32) * (W 11 - (48 : Int32))))])
  refine own_go (fun t k => XS.iconst X1.here hx rfl (hb hby d3_10) k) ?_
  show own_G p e below _ T1 (mkF m 11 #[.val (.ref a1), .val (.int (11 : Int32))] [(.int (1 : Int32)), (.int (11 : Int32)), (.ref a1), (.int (3 : Int32)), (.int ((2 : Int32) * (W 11 - (48 : Int32))))])
  refine own_go (fun t k => XS.isub X1.here hx rfl (hb hby d3_11) rfl k) ?_
  show own_G p e below _ T1 (mkF m 12 #[.val (.ref a1), .val (.int (11 : Int32))] [(.int (10 : Int32)), (.ref a1), (.int (3 : Int32)), (.int ((2 : Int32) * (W 11 - (48 : Int32))))])
  obtain ⟨T2, L2, v2, X2, ⟨rfl, rfl, q2⟩, st2⟩ := own_callS X1 hx hZ (y := (⟨"com/example/compensa/compensa/CheckDigitsGeneralDigitPinLaw", "d", "([CI)I"⟩ : MethodName)) hown (hw _ (List.mem_of_getElem? (i := 13) rfl)) (hw _ (List.mem_of_getElem? (i := 14) rfl)) (hw _ (List.mem_of_getElem? (i := 3) rfl)) (hw _ (List.mem_of_getElem? (i := 15) rfl)) (by decide) (c_d l Z a0 hw a1 cl (10 : Int32) (W 10) h0 Ar (own_in hsz (by decide)) (hat 10 (by decide))) q1 (argsL := [(.ref a1), (.int (10 : Int32))]) (rest := [(.int (3 : Int32)), (.int ((2 : Int32) * (W 11 - (48 : Int32))))]) (g := (mkF m 12 #[.val (.ref a1), .val (.int (11 : Int32))] [(.int (10 : Int32)), (.ref a1), (.int (3 : Int32)), (.int ((2 : Int32) * (W 11 - (48 : Int32))))])) rfl (by rw [hml]; rfl) (ps := [(.array .char), .int]) (r := (some .int)) (by decide +kernel) rfl rfl (W := 2) (by show 2 * 0 + _ ≤ _; exact Nat.le_of_eq rfl) (hb hby d3_12) (by decide) (by decide) (by decide) (by decide)
  refine own_go st2 ?_
  show own_G p e below _ T2 (mkF m 15 #[.val (.ref a1), .val (.int (11 : Int32))] [(.int (W 10 - (48 : Int32))), (.int (3 : Int32)), (.int ((2 : Int32) * (W 11 - (48 : Int32))))])
  refine own_go (fun t k => XS.imul X2.here hx rfl (hb hby d3_15) rfl k) ?_
  show own_G p e below _ T2 (mkF m 16 #[.val (.ref a1), .val (.int (11 : Int32))] [(.int ((3 : Int32) * (W 10 - (48 : Int32)))), (.int ((2 : Int32) * (W 11 - (48 : Int32))))])
  refine own_go (fun t k => XS.iadd X2.here hx rfl (hb hby d3_16) rfl k) ?_
  show own_G p e below _ T2 (mkF m 17 #[.val (.ref a1), .val (.int (11 : Int32))] [(.int (((2 : Int32) * (W 11 - (48 : Int32))) + ((3 : Int32) * (W 10 - (48 : Int32)))))])
  refine own_go (fun t k => XS.iconst X2.here hx rfl (hb hby d3_17) k) ?_
  show own_G p e below _ T2 (mkF m 18 #[.val (.ref a1), .val (.int (11 : Int32))] [(.int (4 : Int32)), (.int (((2 : Int32) * (W 11 - (48 : Int32))) + ((3 : Int32) * (W 10 - (48 : Int32)))))])
  refine own_go (fun t k => XS.aloadN X2.here hx rfl (hb hby d3_18) rfl rfl k) ?_
  show own_G p e below _ T2 (mkF m 19 #[.val (.ref a1), .val (.int (11 : Int32))] [(.ref a1), (.int (4 : Int32)), (.int (((2 : Int32) * (W 11 - (48 : Int32))) + ((3 : Int32) * (W 10 - (48 : Int32)))))])
  refine own_go (fun t k => XS.iloadN X2.here hx rfl (hb hby d3_19) rfl k) ?_
  show own_G p e below _ T2 (mkF m 20 #[.val (.ref a1), .val (.int (11 : Int32))] [(.int (11 : Int32)), (.ref a1), (.int (4 : Int32)), (.int (((2 : Int32) * (W 11 - (48 : Int32))) + ((3 : Int32) * (W 10 - (48 : Int32)))))])
  refine own_go (fun t k => XS.iconst X2.here hx rfl (hb hby d3_20) k) ?_
  show own_G p e below _ T2 (mkF m 21 #[.val (.ref a1), .val (.int (11 : Int32))] [(.int (2 : Int32)), (.int (11 : Int32)), (.ref a1), (.int (4 : Int32)), (.int (((2 : Int32) * (W 11 - (48 : Int32))) + ((3 : Int32) * (W 10 - (48 : Int32)))))])
  refine own_go (fun t k => XS.isub X2.here hx rfl (hb hby d3_21) rfl k) ?_
  show own_G p e below _ T2 (mkF m 22 #[.val (.ref a1), .val (.int (11 : Int32))] [(.int (9 : Int32)), (.ref a1), (.int (4 : Int32)), (.int (((2 : Int32) * (W 11 - (48 : Int32))) + ((3 : Int32) * (W 10 - (48 : Int32)))))])
  obtain ⟨T3, L3, v3, X3, ⟨rfl, rfl, q3⟩, st3⟩ := own_callS X2 hx hZ (y := (⟨"com/example/compensa/compensa/CheckDigitsGeneralDigitPinLaw", "d", "([CI)I"⟩ : MethodName)) hown (hw _ (List.mem_of_getElem? (i := 13) rfl)) (hw _ (List.mem_of_getElem? (i := 14) rfl)) (hw _ (List.mem_of_getElem? (i := 3) rfl)) (hw _ (List.mem_of_getElem? (i := 15) rfl)) (by decide) (c_d l Z a0 hw a1 cl (9 : Int32) (W 9) h0 Ar (own_in hsz (by decide)) (hat 9 (by decide))) q2 (argsL := [(.ref a1), (.int (9 : Int32))]) (rest := [(.int (4 : Int32)), (.int (((2 : Int32) * (W 11 - (48 : Int32))) + ((3 : Int32) * (W 10 - (48 : Int32)))))]) (g := (mkF m 22 #[.val (.ref a1), .val (.int (11 : Int32))] [(.int (9 : Int32)), (.ref a1), (.int (4 : Int32)), (.int (((2 : Int32) * (W 11 - (48 : Int32))) + ((3 : Int32) * (W 10 - (48 : Int32)))))])) rfl (by rw [hml]; rfl) (ps := [(.array .char), .int]) (r := (some .int)) (by decide +kernel) rfl rfl (W := 2) (by show 2 * 0 + _ ≤ _; exact Nat.le_of_eq rfl) (hb hby d3_22) (by decide) (by decide) (by decide) (by decide)
  refine own_go st3 ?_
  show own_G p e below _ T3 (mkF m 25 #[.val (.ref a1), .val (.int (11 : Int32))] [(.int (W 9 - (48 : Int32))), (.int (4 : Int32)), (.int (((2 : Int32) * (W 11 - (48 : Int32))) + ((3 : Int32) * (W 10 - (48 : Int32)))))])
  refine own_go (fun t k => XS.imul X3.here hx rfl (hb hby d3_25) rfl k) ?_
  show own_G p e below _ T3 (mkF m 26 #[.val (.ref a1), .val (.int (11 : Int32))] [(.int ((4 : Int32) * (W 9 - (48 : Int32)))), (.int (((2 : Int32) * (W 11 - (48 : Int32))) + ((3 : Int32) * (W 10 - (48 : Int32)))))])
  refine own_go (fun t k => XS.iadd X3.here hx rfl (hb hby d3_26) rfl k) ?_
  show own_G p e below _ T3 (mkF m 27 #[.val (.ref a1), .val (.int (11 : Int32))] [(.int ((((2 : Int32) * (W 11 - (48 : Int32))) + ((3 : Int32) * (W 10 - (48 : Int32)))) + ((4 : Int32) * (W 9 - (48 : Int32)))))])
  refine own_go (fun t k => XS.iconst X3.here hx rfl (hb hby d3_27) k) ?_
  show own_G p e below _ T3 (mkF m 28 #[.val (.ref a1), .val (.int (11 : Int32))] [(.int (5 : Int32)), (.int ((((2 : Int32) * (W 11 - (48 : Int32))) + ((3 : Int32) * (W 10 - (48 : Int32)))) + ((4 : Int32) * (W 9 - (48 : Int32)))))])
  refine own_go (fun t k => XS.aloadN X3.here hx rfl (hb hby d3_28) rfl rfl k) ?_
  show own_G p e below _ T3 (mkF m 29 #[.val (.ref a1), .val (.int (11 : Int32))] [(.ref a1), (.int (5 : Int32)), (.int ((((2 : Int32) * (W 11 - (48 : Int32))) + ((3 : Int32) * (W 10 - (48 : Int32)))) + ((4 : Int32) * (W 9 - (48 : Int32)))))])
  refine own_go (fun t k => XS.iloadN X3.here hx rfl (hb hby d3_29) rfl k) ?_
  show own_G p e below _ T3 (mkF m 30 #[.val (.ref a1), .val (.int (11 : Int32))] [(.int (11 : Int32)), (.ref a1), (.int (5 : Int32)), (.int ((((2 : Int32) * (W 11 - (48 : Int32))) + ((3 : Int32) * (W 10 - (48 : Int32)))) + ((4 : Int32) * (W 9 - (48 : Int32)))))])
  refine own_go (fun t k => XS.iconst X3.here hx rfl (hb hby d3_30) k) ?_
  show own_G p e below _ T3 (mkF m 31 #[.val (.ref a1), .val (.int (11 : Int32))] [(.int (3 : Int32)), (.int (11 : Int32)), (.ref a1), (.int (5 : Int32)), (.int ((((2 : Int32) * (W 11 - (48 : Int32))) + ((3 : Int32) * (W 10 - (48 : Int32)))) + ((4 : Int32) * (W 9 - (48 : Int32)))))])
  refine own_go (fun t k => XS.isub X3.here hx rfl (hb hby d3_31) rfl k) ?_
  show own_G p e below _ T3 (mkF m 32 #[.val (.ref a1), .val (.int (11 : Int32))] [(.int (8 : Int32)), (.ref a1), (.int (5 : Int32)), (.int ((((2 : Int32) * (W 11 - (48 : Int32))) + ((3 : Int32) * (W 10 - (48 : Int32)))) + ((4 : Int32) * (W 9 - (48 : Int32)))))])
  obtain ⟨T4, L4, v4, X4, ⟨rfl, rfl, q4⟩, st4⟩ := own_callS X3 hx hZ (y := (⟨"com/example/compensa/compensa/CheckDigitsGeneralDigitPinLaw", "d", "([CI)I"⟩ : MethodName)) hown (hw _ (List.mem_of_getElem? (i := 13) rfl)) (hw _ (List.mem_of_getElem? (i := 14) rfl)) (hw _ (List.mem_of_getElem? (i := 3) rfl)) (hw _ (List.mem_of_getElem? (i := 15) rfl)) (by decide) (c_d l Z a0 hw a1 cl (8 : Int32) (W 8) h0 Ar (own_in hsz (by decide)) (hat 8 (by decide))) q3 (argsL := [(.ref a1), (.int (8 : Int32))]) (rest := [(.int (5 : Int32)), (.int ((((2 : Int32) * (W 11 - (48 : Int32))) + ((3 : Int32) * (W 10 - (48 : Int32)))) + ((4 : Int32) * (W 9 - (48 : Int32)))))]) (g := (mkF m 32 #[.val (.ref a1), .val (.int (11 : Int32))] [(.int (8 : Int32)), (.ref a1), (.int (5 : Int32)), (.int ((((2 : Int32) * (W 11 - (48 : Int32))) + ((3 : Int32) * (W 10 - (48 : Int32)))) + ((4 : Int32) * (W 9 - (48 : Int32)))))])) rfl (by rw [hml]; rfl) (ps := [(.array .char), .int]) (r := (some .int)) (by decide +kernel) rfl rfl (W := 2) (by show 2 * 0 + _ ≤ _; exact Nat.le_of_eq rfl) (hb hby d3_32) (by decide) (by decide) (by decide) (by decide)
  refine own_go st4 ?_
  show own_G p e below _ T4 (mkF m 35 #[.val (.ref a1), .val (.int (11 : Int32))] [(.int (W 8 - (48 : Int32))), (.int (5 : Int32)), (.int ((((2 : Int32) * (W 11 - (48 : Int32))) + ((3 : Int32) * (W 10 - (48 : Int32)))) + ((4 : Int32) * (W 9 - (48 : Int32)))))])
  refine own_go (fun t k => XS.imul X4.here hx rfl (hb hby d3_35) rfl k) ?_
  show own_G p e below _ T4 (mkF m 36 #[.val (.ref a1), .val (.int (11 : Int32))] [(.int ((5 : Int32) * (W 8 - (48 : Int32)))), (.int ((((2 : Int32) * (W 11 - (48 : Int32))) + ((3 : Int32) * (W 10 - (48 : Int32)))) + ((4 : Int32) * (W 9 - (48 : Int32)))))])
  refine own_go (fun t k => XS.iadd X4.here hx rfl (hb hby d3_36) rfl k) ?_
  show own_G p e below _ T4 (mkF m 37 #[.val (.ref a1), .val (.int (11 : Int32))] [(.int (((((2 : Int32) * (W 11 - (48 : Int32))) + ((3 : Int32) * (W 10 - (48 : Int32)))) + ((4 : Int32) * (W 9 - (48 : Int32)))) + ((5 : Int32) * (W 8 - (48 : Int32)))))])
  refine own_go (fun t k => XS.bipush X4.here hx rfl (hb hby d3_37) k) ?_
  show own_G p e below _ T4 (mkF m 39 #[.val (.ref a1), .val (.int (11 : Int32))] [(.int (6 : Int32)), (.int (((((2 : Int32) * (W 11 - (48 : Int32))) + ((3 : Int32) * (W 10 - (48 : Int32)))) + ((4 : Int32) * (W 9 - (48 : Int32)))) + ((5 : Int32) * (W 8 - (48 : Int32)))))])
  refine own_go (fun t k => XS.aloadN X4.here hx rfl (hb hby d3_39) rfl rfl k) ?_
  show own_G p e below _ T4 (mkF m 40 #[.val (.ref a1), .val (.int (11 : Int32))] [(.ref a1), (.int (6 : Int32)), (.int (((((2 : Int32) * (W 11 - (48 : Int32))) + ((3 : Int32) * (W 10 - (48 : Int32)))) + ((4 : Int32) * (W 9 - (48 : Int32)))) + ((5 : Int32) * (W 8 - (48 : Int32)))))])
  refine own_go (fun t k => XS.iloadN X4.here hx rfl (hb hby d3_40) rfl k) ?_
  show own_G p e below _ T4 (mkF m 41 #[.val (.ref a1), .val (.int (11 : Int32))] [(.int (11 : Int32)), (.ref a1), (.int (6 : Int32)), (.int (((((2 : Int32) * (W 11 - (48 : Int32))) + ((3 : Int32) * (W 10 - (48 : Int32)))) + ((4 : Int32) * (W 9 - (48 : Int32)))) + ((5 : Int32) * (W 8 - (48 : Int32)))))])
  refine own_go (fun t k => XS.iconst X4.here hx rfl (hb hby d3_41) k) ?_
  show own_G p e below _ T4 (mkF m 42 #[.val (.ref a1), .val (.int (11 : Int32))] [(.int (4 : Int32)), (.int (11 : Int32)), (.ref a1), (.int (6 : Int32)), (.int (((((2 : Int32) * (W 11 - (48 : Int32))) + ((3 : Int32) * (W 10 - (48 : Int32)))) + ((4 : Int32) * (W 9 - (48 : Int32)))) + ((5 : Int32) * (W 8 - (48 : Int32)))))])
  refine own_go (fun t k => XS.isub X4.here hx rfl (hb hby d3_42) rfl k) ?_
  show own_G p e below _ T4 (mkF m 43 #[.val (.ref a1), .val (.int (11 : Int32))] [(.int (7 : Int32)), (.ref a1), (.int (6 : Int32)), (.int (((((2 : Int32) * (W 11 - (48 : Int32))) + ((3 : Int32) * (W 10 - (48 : Int32)))) + ((4 : Int32) * (W 9 - (48 : Int32)))) + ((5 : Int32) * (W 8 - (48 : Int32)))))])
  obtain ⟨T5, L5, v5, X5, ⟨rfl, rfl, q5⟩, st5⟩ := own_callS X4 hx hZ (y := (⟨"com/example/compensa/compensa/CheckDigitsGeneralDigitPinLaw", "d", "([CI)I"⟩ : MethodName)) hown (hw _ (List.mem_of_getElem? (i := 13) rfl)) (hw _ (List.mem_of_getElem? (i := 14) rfl)) (hw _ (List.mem_of_getElem? (i := 3) rfl)) (hw _ (List.mem_of_getElem? (i := 15) rfl)) (by decide) (c_d l Z a0 hw a1 cl (7 : Int32) (W 7) h0 Ar (own_in hsz (by decide)) (hat 7 (by decide))) q4 (argsL := [(.ref a1), (.int (7 : Int32))]) (rest := [(.int (6 : Int32)), (.int (((((2 : Int32) * (W 11 - (48 : Int32))) + ((3 : Int32) * (W 10 - (48 : Int32)))) + ((4 : Int32) * (W 9 - (48 : Int32)))) + ((5 : Int32) * (W 8 - (48 : Int32)))))]) (g := (mkF m 43 #[.val (.ref a1), .val (.int (11 : Int32))] [(.int (7 : Int32)), (.ref a1), (.int (6 : Int32)), (.int (((((2 : Int32) * (W 11 - (48 : Int32))) + ((3 : Int32) * (W 10 - (48 : Int32)))) + ((4 : Int32) * (W 9 - (48 : Int32)))) + ((5 : Int32) * (W 8 - (48 : Int32)))))])) rfl (by rw [hml]; rfl) (ps := [(.array .char), .int]) (r := (some .int)) (by decide +kernel) rfl rfl (W := 2) (by show 2 * 0 + _ ≤ _; exact Nat.le_of_eq rfl) (hb hby d3_43) (by decide) (by decide) (by decide) (by decide)
  refine own_go st5 ?_
  show own_G p e below _ T5 (mkF m 46 #[.val (.ref a1), .val (.int (11 : Int32))] [(.int (W 7 - (48 : Int32))), (.int (6 : Int32)), (.int (((((2 : Int32) * (W 11 - (48 : Int32))) + ((3 : Int32) * (W 10 - (48 : Int32)))) + ((4 : Int32) * (W 9 - (48 : Int32)))) + ((5 : Int32) * (W 8 - (48 : Int32)))))])
  refine own_go (fun t k => XS.imul X5.here hx rfl (hb hby d3_46) rfl k) ?_
  show own_G p e below _ T5 (mkF m 47 #[.val (.ref a1), .val (.int (11 : Int32))] [(.int ((6 : Int32) * (W 7 - (48 : Int32)))), (.int (((((2 : Int32) * (W 11 - (48 : Int32))) + ((3 : Int32) * (W 10 - (48 : Int32)))) + ((4 : Int32) * (W 9 - (48 : Int32)))) + ((5 : Int32) * (W 8 - (48 : Int32)))))])
  refine own_go (fun t k => XS.iadd X5.here hx rfl (hb hby d3_47) rfl k) ?_
  show own_G p e below _ T5 (mkF m 48 #[.val (.ref a1), .val (.int (11 : Int32))] [(.int ((((((2 : Int32) * (W 11 - (48 : Int32))) + ((3 : Int32) * (W 10 - (48 : Int32)))) + ((4 : Int32) * (W 9 - (48 : Int32)))) + ((5 : Int32) * (W 8 - (48 : Int32)))) + ((6 : Int32) * (W 7 - (48 : Int32)))))])
  refine own_go (fun t k => XS.bipush X5.here hx rfl (hb hby d3_48) k) ?_
  show own_G p e below _ T5 (mkF m 50 #[.val (.ref a1), .val (.int (11 : Int32))] [(.int (7 : Int32)), (.int ((((((2 : Int32) * (W 11 - (48 : Int32))) + ((3 : Int32) * (W 10 - (48 : Int32)))) + ((4 : Int32) * (W 9 - (48 : Int32)))) + ((5 : Int32) * (W 8 - (48 : Int32)))) + ((6 : Int32) * (W 7 - (48 : Int32)))))])
  refine own_go (fun t k => XS.aloadN X5.here hx rfl (hb hby d3_50) rfl rfl k) ?_
  show own_G p e below _ T5 (mkF m 51 #[.val (.ref a1), .val (.int (11 : Int32))] [(.ref a1), (.int (7 : Int32)), (.int ((((((2 : Int32) * (W 11 - (48 : Int32))) + ((3 : Int32) * (W 10 - (48 : Int32)))) + ((4 : Int32) * (W 9 - (48 : Int32)))) + ((5 : Int32) * (W 8 - (48 : Int32)))) + ((6 : Int32) * (W 7 - (48 : Int32)))))])
  refine own_go (fun t k => XS.iloadN X5.here hx rfl (hb hby d3_51) rfl k) ?_
  show own_G p e below _ T5 (mkF m 52 #[.val (.ref a1), .val (.int (11 : Int32))] [(.int (11 : Int32)), (.ref a1), (.int (7 : Int32)), (.int ((((((2 : Int32) * (W 11 - (48 : Int32))) + ((3 : Int32) * (W 10 - (48 : Int32)))) + ((4 : Int32) * (W 9 - (48 : Int32)))) + ((5 : Int32) * (W 8 - (48 : Int32)))) + ((6 : Int32) * (W 7 - (48 : Int32)))))])
  refine own_go (fun t k => XS.iconst X5.here hx rfl (hb hby d3_52) k) ?_
  show own_G p e below _ T5 (mkF m 53 #[.val (.ref a1), .val (.int (11 : Int32))] [(.int (5 : Int32)), (.int (11 : Int32)), (.ref a1), (.int (7 : Int32)), (.int ((((((2 : Int32) * (W 11 - (48 : Int32))) + ((3 : Int32) * (W 10 - (48 : Int32)))) + ((4 : Int32) * (W 9 - (48 : Int32)))) + ((5 : Int32) * (W 8 - (48 : Int32)))) + ((6 : Int32) * (W 7 - (48 : Int32)))))])
  refine own_go (fun t k => XS.isub X5.here hx rfl (hb hby d3_53) rfl k) ?_
  show own_G p e below _ T5 (mkF m 54 #[.val (.ref a1), .val (.int (11 : Int32))] [(.int (6 : Int32)), (.ref a1), (.int (7 : Int32)), (.int ((((((2 : Int32) * (W 11 - (48 : Int32))) + ((3 : Int32) * (W 10 - (48 : Int32)))) + ((4 : Int32) * (W 9 - (48 : Int32)))) + ((5 : Int32) * (W 8 - (48 : Int32)))) + ((6 : Int32) * (W 7 - (48 : Int32)))))])
  obtain ⟨T6, L6, v6, X6, ⟨rfl, rfl, q6⟩, st6⟩ := own_callS X5 hx hZ (y := (⟨"com/example/compensa/compensa/CheckDigitsGeneralDigitPinLaw", "d", "([CI)I"⟩ : MethodName)) hown (hw _ (List.mem_of_getElem? (i := 13) rfl)) (hw _ (List.mem_of_getElem? (i := 14) rfl)) (hw _ (List.mem_of_getElem? (i := 3) rfl)) (hw _ (List.mem_of_getElem? (i := 15) rfl)) (by decide) (c_d l Z a0 hw a1 cl (6 : Int32) (W 6) h0 Ar (own_in hsz (by decide)) (hat 6 (by decide))) q5 (argsL := [(.ref a1), (.int (6 : Int32))]) (rest := [(.int (7 : Int32)), (.int ((((((2 : Int32) * (W 11 - (48 : Int32))) + ((3 : Int32) * (W 10 - (48 : Int32)))) + ((4 : Int32) * (W 9 - (48 : Int32)))) + ((5 : Int32) * (W 8 - (48 : Int32)))) + ((6 : Int32) * (W 7 - (48 : Int32)))))]) (g := (mkF m 54 #[.val (.ref a1), .val (.int (11 : Int32))] [(.int (6 : Int32)), (.ref a1), (.int (7 : Int32)), (.int ((((((2 : Int32) * (W 11 - (48 : Int32))) + ((3 : Int32) * (W 10 - (48 : Int32)))) + ((4 : Int32) * (W 9 - (48 : Int32)))) + ((5 : Int32) * (W 8 - (48 : Int32)))) + ((6 : Int32) * (W 7 - (48 : Int32)))))])) rfl (by rw [hml]; rfl) (ps := [(.array .char), .int]) (r := (some .int)) (by decide +kernel) rfl rfl (W := 2) (by show 2 * 0 + _ ≤ _; exact Nat.le_of_eq rfl) (hb hby d3_54) (by decide) (by decide) (by decide) (by decide)
  refine own_go st6 ?_
  show own_G p e below _ T6 (mkF m 57 #[.val (.ref a1), .val (.int (11 : Int32))] [(.int (W 6 - (48 : Int32))), (.int (7 : Int32)), (.int ((((((2 : Int32) * (W 11 - (48 : Int32))) + ((3 : Int32) * (W 10 - (48 : Int32)))) + ((4 : Int32) * (W 9 - (48 : Int32)))) + ((5 : Int32) * (W 8 - (48 : Int32)))) + ((6 : Int32) * (W 7 - (48 : Int32)))))])
  refine own_go (fun t k => XS.imul X6.here hx rfl (hb hby d3_57) rfl k) ?_
  show own_G p e below _ T6 (mkF m 58 #[.val (.ref a1), .val (.int (11 : Int32))] [(.int ((7 : Int32) * (W 6 - (48 : Int32)))), (.int ((((((2 : Int32) * (W 11 - (48 : Int32))) + ((3 : Int32) * (W 10 - (48 : Int32)))) + ((4 : Int32) * (W 9 - (48 : Int32)))) + ((5 : Int32) * (W 8 - (48 : Int32)))) + ((6 : Int32) * (W 7 - (48 : Int32)))))])
  refine own_go (fun t k => XS.iadd X6.here hx rfl (hb hby d3_58) rfl k) ?_
  show own_G p e below _ T6 (mkF m 59 #[.val (.ref a1), .val (.int (11 : Int32))] [(.int (((((((2 : Int32) * (W 11 - (48 : Int32))) + ((3 : Int32) * (W 10 - (48 : Int32)))) + ((4 : Int32) * (W 9 - (48 : Int32)))) + ((5 : Int32) * (W 8 - (48 : Int32)))) + ((6 : Int32) * (W 7 - (48 : Int32)))) + ((7 : Int32) * (W 6 - (48 : Int32)))))])
  refine own_go (fun t k => XS.bipush X6.here hx rfl (hb hby d3_59) k) ?_
  show own_G p e below _ T6 (mkF m 61 #[.val (.ref a1), .val (.int (11 : Int32))] [(.int (8 : Int32)), (.int (((((((2 : Int32) * (W 11 - (48 : Int32))) + ((3 : Int32) * (W 10 - (48 : Int32)))) + ((4 : Int32) * (W 9 - (48 : Int32)))) + ((5 : Int32) * (W 8 - (48 : Int32)))) + ((6 : Int32) * (W 7 - (48 : Int32)))) + ((7 : Int32) * (W 6 - (48 : Int32)))))])
  refine own_go (fun t k => XS.aloadN X6.here hx rfl (hb hby d3_61) rfl rfl k) ?_
  show own_G p e below _ T6 (mkF m 62 #[.val (.ref a1), .val (.int (11 : Int32))] [(.ref a1), (.int (8 : Int32)), (.int (((((((2 : Int32) * (W 11 - (48 : Int32))) + ((3 : Int32) * (W 10 - (48 : Int32)))) + ((4 : Int32) * (W 9 - (48 : Int32)))) + ((5 : Int32) * (W 8 - (48 : Int32)))) + ((6 : Int32) * (W 7 - (48 : Int32)))) + ((7 : Int32) * (W 6 - (48 : Int32)))))])
  refine own_go (fun t k => XS.iloadN X6.here hx rfl (hb hby d3_62) rfl k) ?_
  show own_G p e below _ T6 (mkF m 63 #[.val (.ref a1), .val (.int (11 : Int32))] [(.int (11 : Int32)), (.ref a1), (.int (8 : Int32)), (.int (((((((2 : Int32) * (W 11 - (48 : Int32))) + ((3 : Int32) * (W 10 - (48 : Int32)))) + ((4 : Int32) * (W 9 - (48 : Int32)))) + ((5 : Int32) * (W 8 - (48 : Int32)))) + ((6 : Int32) * (W 7 - (48 : Int32)))) + ((7 : Int32) * (W 6 - (48 : Int32)))))])
  refine own_go (fun t k => XS.bipush X6.here hx rfl (hb hby d3_63) k) ?_
  show own_G p e below _ T6 (mkF m 65 #[.val (.ref a1), .val (.int (11 : Int32))] [(.int (6 : Int32)), (.int (11 : Int32)), (.ref a1), (.int (8 : Int32)), (.int (((((((2 : Int32) * (W 11 - (48 : Int32))) + ((3 : Int32) * (W 10 - (48 : Int32)))) + ((4 : Int32) * (W 9 - (48 : Int32)))) + ((5 : Int32) * (W 8 - (48 : Int32)))) + ((6 : Int32) * (W 7 - (48 : Int32)))) + ((7 : Int32) * (W 6 - (48 : Int32)))))])
  refine own_go (fun t k => XS.isub X6.here hx rfl (hb hby d3_65) rfl k) ?_
  show own_G p e below _ T6 (mkF m 66 #[.val (.ref a1), .val (.int (11 : Int32))] [(.int (5 : Int32)), (.ref a1), (.int (8 : Int32)), (.int (((((((2 : Int32) * (W 11 - (48 : Int32))) + ((3 : Int32) * (W 10 - (48 : Int32)))) + ((4 : Int32) * (W 9 - (48 : Int32)))) + ((5 : Int32) * (W 8 - (48 : Int32)))) + ((6 : Int32) * (W 7 - (48 : Int32)))) + ((7 : Int32) * (W 6 - (48 : Int32)))))])
  obtain ⟨T7, L7, v7, X7, ⟨rfl, rfl, q7⟩, st7⟩ := own_callS X6 hx hZ (y := (⟨"com/example/compensa/compensa/CheckDigitsGeneralDigitPinLaw", "d", "([CI)I"⟩ : MethodName)) hown (hw _ (List.mem_of_getElem? (i := 13) rfl)) (hw _ (List.mem_of_getElem? (i := 14) rfl)) (hw _ (List.mem_of_getElem? (i := 3) rfl)) (hw _ (List.mem_of_getElem? (i := 15) rfl)) (by decide) (c_d l Z a0 hw a1 cl (5 : Int32) (W 5) h0 Ar (own_in hsz (by decide)) (hat 5 (by decide))) q6 (argsL := [(.ref a1), (.int (5 : Int32))]) (rest := [(.int (8 : Int32)), (.int (((((((2 : Int32) * (W 11 - (48 : Int32))) + ((3 : Int32) * (W 10 - (48 : Int32)))) + ((4 : Int32) * (W 9 - (48 : Int32)))) + ((5 : Int32) * (W 8 - (48 : Int32)))) + ((6 : Int32) * (W 7 - (48 : Int32)))) + ((7 : Int32) * (W 6 - (48 : Int32)))))]) (g := (mkF m 66 #[.val (.ref a1), .val (.int (11 : Int32))] [(.int (5 : Int32)), (.ref a1), (.int (8 : Int32)), (.int (((((((2 : Int32) * (W 11 - (48 : Int32))) + ((3 : Int32) * (W 10 - (48 : Int32)))) + ((4 : Int32) * (W 9 - (48 : Int32)))) + ((5 : Int32) * (W 8 - (48 : Int32)))) + ((6 : Int32) * (W 7 - (48 : Int32)))) + ((7 : Int32) * (W 6 - (48 : Int32)))))])) rfl (by rw [hml]; rfl) (ps := [(.array .char), .int]) (r := (some .int)) (by decide +kernel) rfl rfl (W := 2) (by show 2 * 0 + _ ≤ _; exact Nat.le_of_eq rfl) (hb hby d3_66) (by decide) (by decide) (by decide) (by decide)
  refine own_go st7 ?_
  show own_G p e below _ T7 (mkF m 69 #[.val (.ref a1), .val (.int (11 : Int32))] [(.int (W 5 - (48 : Int32))), (.int (8 : Int32)), (.int (((((((2 : Int32) * (W 11 - (48 : Int32))) + ((3 : Int32) * (W 10 - (48 : Int32)))) + ((4 : Int32) * (W 9 - (48 : Int32)))) + ((5 : Int32) * (W 8 - (48 : Int32)))) + ((6 : Int32) * (W 7 - (48 : Int32)))) + ((7 : Int32) * (W 6 - (48 : Int32)))))])
  refine own_go (fun t k => XS.imul X7.here hx rfl (hb hby d3_69) rfl k) ?_
  show own_G p e below _ T7 (mkF m 70 #[.val (.ref a1), .val (.int (11 : Int32))] [(.int ((8 : Int32) * (W 5 - (48 : Int32)))), (.int (((((((2 : Int32) * (W 11 - (48 : Int32))) + ((3 : Int32) * (W 10 - (48 : Int32)))) + ((4 : Int32) * (W 9 - (48 : Int32)))) + ((5 : Int32) * (W 8 - (48 : Int32)))) + ((6 : Int32) * (W 7 - (48 : Int32)))) + ((7 : Int32) * (W 6 - (48 : Int32)))))])
  refine own_go (fun t k => XS.iadd X7.here hx rfl (hb hby d3_70) rfl k) ?_
  show own_G p e below _ T7 (mkF m 71 #[.val (.ref a1), .val (.int (11 : Int32))] [(.int ((((((((2 : Int32) * (W 11 - (48 : Int32))) + ((3 : Int32) * (W 10 - (48 : Int32)))) + ((4 : Int32) * (W 9 - (48 : Int32)))) + ((5 : Int32) * (W 8 - (48 : Int32)))) + ((6 : Int32) * (W 7 - (48 : Int32)))) + ((7 : Int32) * (W 6 - (48 : Int32)))) + ((8 : Int32) * (W 5 - (48 : Int32)))))])
  exact own_retI X7 hx hlk hret (hb hby d3_71) (by decide) (by decide) ⟨rfl, rfl, q7⟩
theorem d2_0 : decode method_5_code 0 = .ok (.aload_n 0, 1) := by decide +kernel
theorem d2_1 : decode method_5_code 1 = .ok (.iload_n 1, 1) := by decide +kernel
theorem d2_2 : decode method_5_code 2 = .ok (.invokestatic 17, 3) := by decide +kernel
theorem d2_5 : decode method_5_code 5 = .ok (.bipush 9, 2) := by decide +kernel
theorem d2_7 : decode method_5_code 7 = .ok (.aload_n 0, 1) := by decide +kernel
theorem d2_8 : decode method_5_code 8 = .ok (.iload_n 1, 1) := by decide +kernel
theorem d2_9 : decode method_5_code 9 = .ok (.bipush 7, 2) := by decide +kernel
theorem d2_11 : decode method_5_code 11 = .ok (.isub, 1) := by decide +kernel
theorem d2_12 : decode method_5_code 12 = .ok (.invokestatic 11, 3) := by decide +kernel
theorem d2_15 : decode method_5_code 15 = .ok (.imul, 1) := by decide +kernel
theorem d2_16 : decode method_5_code 16 = .ok (.iadd, 1) := by decide +kernel
theorem d2_17 : decode method_5_code 17 = .ok (.ireturn, 1) := by decide +kernel
theorem pn_2 : plainFor (⟨"com/example/compensa/compensa/CheckDigitsGeneralDigitPinLaw", "run8", "([CI)I"⟩ : MethodName) = true := by first | exact plainFor_of_name (by first | (simp [plainName, overriddenIn]; done) | decide +kernel) | decide +kernel
set_option maxRecDepth 65536 in
set_option maxHeartbeats 40000000 in
theorem c_run8_43 (l : Launch) (Z : State) (a0 : Array Value) (hw : ∀ d ∈ tables_1, d.before a0 Z = true) (a1 : Addr) (cl : Cell) (W : Nat → Int32) (h0 : Heap) (Ar : Arr Z h0 a1 cl .char) (hsz : cl.slots.size = 44) (hat : ∀ i, i < 44 → cl.slots[i]? = some (.int (W i))) :
    own_M l Z (⟨"com/example/compensa/compensa/CheckDigitsGeneralDigitPinLaw", "run8", "([CI)I"⟩ : MethodName) method_5_code 2 (some .int) ⟨2, 0, 0, 60⟩ #[.ref a1, .int (43 : Int32)] h0 (fun v h L => v = some (.int (own_r8 W 43)) ∧ L = [] ∧ h = h0) := by
  refine own_body pn_2 ?_
  intro p e s m below meth c T0 hx hby hml hlk hown hret hnm hZ X0 e0
  replace hown : s.vm.findClass "com/example/compensa/compensa/CheckDigitsGeneralDigitPinLaw" = some m.cls := hown
  replace hml : c.maxLocals = 2 := hml
  have ef : entryFrame m #[.ref a1, .int (43 : Int32)] 2 = (mkF m 0 #[.val (.ref a1), .val (.int (43 : Int32))] []) := by first | (simp [entryFrame, mkF, argsToLocals, Value.category]; done) | rfl
  rw [ef]
  refine own_go (fun t k => XS.aloadN X0.here hx rfl (hb hby d2_0) rfl rfl k) ?_
  show own_G p e below _ T0 (mkF m 1 #[.val (.ref a1), .val (.int (43 : Int32))] [(.ref a1)])
  refine own_go (fun t k => XS.iloadN X0.here hx rfl (hb hby d2_1) rfl k) ?_
  show own_G p e below _ T0 (mkF m 2 #[.val (.ref a1), .val (.int (43 : Int32))] [(.int (43 : Int32)), (.ref a1)])
  obtain ⟨T1, L1, v1, X1, ⟨rfl, rfl, q1⟩, st1⟩ := own_callS X0 hx hZ (y := (⟨"com/example/compensa/compensa/CheckDigitsGeneralDigitPinLaw", "run7", "([CI)I"⟩ : MethodName)) hown (hw _ (List.mem_of_getElem? (i := 10) rfl)) (hw _ (List.mem_of_getElem? (i := 11) rfl)) (hw _ (List.mem_of_getElem? (i := 3) rfl)) (hw _ (List.mem_of_getElem? (i := 12) rfl)) (by decide) (c_run7_43 l Z a0 hw a1 cl W h0 Ar hsz hat) e0 (argsL := [(.ref a1), (.int (43 : Int32))]) (rest := []) (g := (mkF m 2 #[.val (.ref a1), .val (.int (43 : Int32))] [(.int (43 : Int32)), (.ref a1)])) rfl (by rw [hml]; rfl) (ps := [(.array .char), .int]) (r := (some .int)) (by decide +kernel) rfl rfl (W := 0) (by show 2 * 0 + _ ≤ _; exact Nat.le_of_eq rfl) (hb hby d2_2) (by decide) (by decide) (by decide) (by decide)
  refine own_go st1 ?_
  show own_G p e below _ T1 (mkF m 5 #[.val (.ref a1), .val (.int (43 : Int32))] [(.int (own_r7 W 43))])
  refine own_go (fun t k => XS.bipush X1.here hx rfl (hb hby d2_5) k) ?_
  show own_G p e below _ T1 (mkF m 7 #[.val (.ref a1), .val (.int (43 : Int32))] [(.int (9 : Int32)), (.int (own_r7 W 43))])
  refine own_go (fun t k => XS.aloadN X1.here hx rfl (hb hby d2_7) rfl rfl k) ?_
  show own_G p e below _ T1 (mkF m 8 #[.val (.ref a1), .val (.int (43 : Int32))] [(.ref a1), (.int (9 : Int32)), (.int (own_r7 W 43))])
  refine own_go (fun t k => XS.iloadN X1.here hx rfl (hb hby d2_8) rfl k) ?_
  show own_G p e below _ T1 (mkF m 9 #[.val (.ref a1), .val (.int (43 : Int32))] [(.int (43 : Int32)), (.ref a1), (.int (9 : Int32)), (.int (own_r7 W 43))])
  refine own_go (fun t k => XS.bipush X1.here hx rfl (hb hby d2_9) k) ?_
  show own_G p e below _ T1 (mkF m 11 #[.val (.ref a1), .val (.int (43 : Int32))] [(.int (7 : Int32)), (.int (43 : Int32)), (.ref a1), (.int (9 : Int32)), (.int (own_r7 W 43))])
  refine own_go (fun t k => XS.isub X1.here hx rfl (hb hby d2_11) rfl k) ?_
  show own_G p e below _ T1 (mkF m 12 #[.val (.ref a1), .val (.int (43 : Int32))] [(.int (36 : Int32)), (.ref a1), (.int (9 : Int32)), (.int (own_r7 W 43))])
  obtain ⟨T2, L2, v2, X2, ⟨rfl, rfl, q2⟩, st2⟩ := own_callS X1 hx hZ (y := (⟨"com/example/compensa/compensa/CheckDigitsGeneralDigitPinLaw", "d", "([CI)I"⟩ : MethodName)) hown (hw _ (List.mem_of_getElem? (i := 13) rfl)) (hw _ (List.mem_of_getElem? (i := 14) rfl)) (hw _ (List.mem_of_getElem? (i := 3) rfl)) (hw _ (List.mem_of_getElem? (i := 15) rfl)) (by decide) (c_d l Z a0 hw a1 cl (36 : Int32) (W 36) h0 Ar (own_in hsz (by decide)) (hat 36 (by decide))) q1 (argsL := [(.ref a1), (.int (36 : Int32))]) (rest := [(.int (9 : Int32)), (.int (own_r7 W 43))]) (g := (mkF m 12 #[.val (.ref a1), .val (.int (43 : Int32))] [(.int (36 : Int32)), (.ref a1), (.int (9 : Int32)), (.int (own_r7 W 43))])) rfl (by rw [hml]; rfl) (ps := [(.array .char), .int]) (r := (some .int)) (by decide +kernel) rfl rfl (W := 2) (by show 2 * 0 + _ ≤ _; exact Nat.le_of_eq rfl) (hb hby d2_12) (by decide) (by decide) (by decide) (by decide)
  refine own_go st2 ?_
  show own_G p e below _ T2 (mkF m 15 #[.val (.ref a1), .val (.int (43 : Int32))] [(.int (W 36 - (48 : Int32))), (.int (9 : Int32)), (.int (own_r7 W 43))])
  refine own_go (fun t k => XS.imul X2.here hx rfl (hb hby d2_15) rfl k) ?_
  show own_G p e below _ T2 (mkF m 16 #[.val (.ref a1), .val (.int (43 : Int32))] [(.int ((9 : Int32) * (W 36 - (48 : Int32)))), (.int (own_r7 W 43))])
  refine own_go (fun t k => XS.iadd X2.here hx rfl (hb hby d2_16) rfl k) ?_
  show own_G p e below _ T2 (mkF m 17 #[.val (.ref a1), .val (.int (43 : Int32))] [(.int ((own_r7 W 43) + ((9 : Int32) * (W 36 - (48 : Int32)))))])
  exact own_retI X2 hx hlk hret (hb hby d2_17) (by decide) (by decide) ⟨rfl, rfl, q2⟩
set_option maxRecDepth 65536 in
set_option maxHeartbeats 40000000 in
theorem c_run8_35 (l : Launch) (Z : State) (a0 : Array Value) (hw : ∀ d ∈ tables_1, d.before a0 Z = true) (a1 : Addr) (cl : Cell) (W : Nat → Int32) (h0 : Heap) (Ar : Arr Z h0 a1 cl .char) (hsz : cl.slots.size = 44) (hat : ∀ i, i < 44 → cl.slots[i]? = some (.int (W i))) :
    own_M l Z (⟨"com/example/compensa/compensa/CheckDigitsGeneralDigitPinLaw", "run8", "([CI)I"⟩ : MethodName) method_5_code 2 (some .int) ⟨2, 0, 0, 60⟩ #[.ref a1, .int (35 : Int32)] h0 (fun v h L => v = some (.int (own_r8 W 35)) ∧ L = [] ∧ h = h0) := by
  refine own_body pn_2 ?_
  intro p e s m below meth c T0 hx hby hml hlk hown hret hnm hZ X0 e0
  replace hown : s.vm.findClass "com/example/compensa/compensa/CheckDigitsGeneralDigitPinLaw" = some m.cls := hown
  replace hml : c.maxLocals = 2 := hml
  have ef : entryFrame m #[.ref a1, .int (35 : Int32)] 2 = (mkF m 0 #[.val (.ref a1), .val (.int (35 : Int32))] []) := by first | (simp [entryFrame, mkF, argsToLocals, Value.category]; done) | rfl
  rw [ef]
  refine own_go (fun t k => XS.aloadN X0.here hx rfl (hb hby d2_0) rfl rfl k) ?_
  show own_G p e below _ T0 (mkF m 1 #[.val (.ref a1), .val (.int (35 : Int32))] [(.ref a1)])
  refine own_go (fun t k => XS.iloadN X0.here hx rfl (hb hby d2_1) rfl k) ?_
  show own_G p e below _ T0 (mkF m 2 #[.val (.ref a1), .val (.int (35 : Int32))] [(.int (35 : Int32)), (.ref a1)])
  obtain ⟨T1, L1, v1, X1, ⟨rfl, rfl, q1⟩, st1⟩ := own_callS X0 hx hZ (y := (⟨"com/example/compensa/compensa/CheckDigitsGeneralDigitPinLaw", "run7", "([CI)I"⟩ : MethodName)) hown (hw _ (List.mem_of_getElem? (i := 10) rfl)) (hw _ (List.mem_of_getElem? (i := 11) rfl)) (hw _ (List.mem_of_getElem? (i := 3) rfl)) (hw _ (List.mem_of_getElem? (i := 12) rfl)) (by decide) (c_run7_35 l Z a0 hw a1 cl W h0 Ar hsz hat) e0 (argsL := [(.ref a1), (.int (35 : Int32))]) (rest := []) (g := (mkF m 2 #[.val (.ref a1), .val (.int (35 : Int32))] [(.int (35 : Int32)), (.ref a1)])) rfl (by rw [hml]; rfl) (ps := [(.array .char), .int]) (r := (some .int)) (by decide +kernel) rfl rfl (W := 0) (by show 2 * 0 + _ ≤ _; exact Nat.le_of_eq rfl) (hb hby d2_2) (by decide) (by decide) (by decide) (by decide)
  refine own_go st1 ?_
  show own_G p e below _ T1 (mkF m 5 #[.val (.ref a1), .val (.int (35 : Int32))] [(.int (own_r7 W 35))])
  refine own_go (fun t k => XS.bipush X1.here hx rfl (hb hby d2_5) k) ?_
  show own_G p e below _ T1 (mkF m 7 #[.val (.ref a1), .val (.int (35 : Int32))] [(.int (9 : Int32)), (.int (own_r7 W 35))])
  refine own_go (fun t k => XS.aloadN X1.here hx rfl (hb hby d2_7) rfl rfl k) ?_
  show own_G p e below _ T1 (mkF m 8 #[.val (.ref a1), .val (.int (35 : Int32))] [(.ref a1), (.int (9 : Int32)), (.int (own_r7 W 35))])
  refine own_go (fun t k => XS.iloadN X1.here hx rfl (hb hby d2_8) rfl k) ?_
  show own_G p e below _ T1 (mkF m 9 #[.val (.ref a1), .val (.int (35 : Int32))] [(.int (35 : Int32)), (.ref a1), (.int (9 : Int32)), (.int (own_r7 W 35))])
  refine own_go (fun t k => XS.bipush X1.here hx rfl (hb hby d2_9) k) ?_
  show own_G p e below _ T1 (mkF m 11 #[.val (.ref a1), .val (.int (35 : Int32))] [(.int (7 : Int32)), (.int (35 : Int32)), (.ref a1), (.int (9 : Int32)), (.int (own_r7 W 35))])
  refine own_go (fun t k => XS.isub X1.here hx rfl (hb hby d2_11) rfl k) ?_
  show own_G p e below _ T1 (mkF m 12 #[.val (.ref a1), .val (.int (35 : Int32))] [(.int (28 : Int32)), (.ref a1), (.int (9 : Int32)), (.int (own_r7 W 35))])
  obtain ⟨T2, L2, v2, X2, ⟨rfl, rfl, q2⟩, st2⟩ := own_callS X1 hx hZ (y := (⟨"com/example/compensa/compensa/CheckDigitsGeneralDigitPinLaw", "d", "([CI)I"⟩ : MethodName)) hown (hw _ (List.mem_of_getElem? (i := 13) rfl)) (hw _ (List.mem_of_getElem? (i := 14) rfl)) (hw _ (List.mem_of_getElem? (i := 3) rfl)) (hw _ (List.mem_of_getElem? (i := 15) rfl)) (by decide) (c_d l Z a0 hw a1 cl (28 : Int32) (W 28) h0 Ar (own_in hsz (by decide)) (hat 28 (by decide))) q1 (argsL := [(.ref a1), (.int (28 : Int32))]) (rest := [(.int (9 : Int32)), (.int (own_r7 W 35))]) (g := (mkF m 12 #[.val (.ref a1), .val (.int (35 : Int32))] [(.int (28 : Int32)), (.ref a1), (.int (9 : Int32)), (.int (own_r7 W 35))])) rfl (by rw [hml]; rfl) (ps := [(.array .char), .int]) (r := (some .int)) (by decide +kernel) rfl rfl (W := 2) (by show 2 * 0 + _ ≤ _; exact Nat.le_of_eq rfl) (hb hby d2_12) (by decide) (by decide) (by decide) (by decide)
  refine own_go st2 ?_
  show own_G p e below _ T2 (mkF m 15 #[.val (.ref a1), .val (.int (35 : Int32))] [(.int (W 28 - (48 : Int32))), (.int (9 : Int32)), (.int (own_r7 W 35))])
  refine own_go (fun t k => XS.imul X2.here hx rfl (hb hby d2_15) rfl k) ?_
  show own_G p e below _ T2 (mkF m 16 #[.val (.ref a1), .val (.int (35 : Int32))] [(.int ((9 : Int32) * (W 28 - (48 : Int32)))), (.int (own_r7 W 35))])
  refine own_go (fun t k => XS.iadd X2.here hx rfl (hb hby d2_16) rfl k) ?_
  show own_G p e below _ T2 (mkF m 17 #[.val (.ref a1), .val (.int (35 : Int32))] [(.int ((own_r7 W 35) + ((9 : Int32) * (W 28 - (48 : Int32)))))])
  exact own_retI X2 hx hlk hret (hb hby d2_17) (by decide) (by decide) ⟨rfl, rfl, q2⟩
set_option maxRecDepth 65536 in
set_option maxHeartbeats 40000000 in
theorem c_run8_27 (l : Launch) (Z : State) (a0 : Array Value) (hw : ∀ d ∈ tables_1, d.before a0 Z = true) (a1 : Addr) (cl : Cell) (W : Nat → Int32) (h0 : Heap) (Ar : Arr Z h0 a1 cl .char) (hsz : cl.slots.size = 44) (hat : ∀ i, i < 44 → cl.slots[i]? = some (.int (W i))) :
    own_M l Z (⟨"com/example/compensa/compensa/CheckDigitsGeneralDigitPinLaw", "run8", "([CI)I"⟩ : MethodName) method_5_code 2 (some .int) ⟨2, 0, 0, 60⟩ #[.ref a1, .int (27 : Int32)] h0 (fun v h L => v = some (.int (own_r8 W 27)) ∧ L = [] ∧ h = h0) := by
  refine own_body pn_2 ?_
  intro p e s m below meth c T0 hx hby hml hlk hown hret hnm hZ X0 e0
  replace hown : s.vm.findClass "com/example/compensa/compensa/CheckDigitsGeneralDigitPinLaw" = some m.cls := hown
  replace hml : c.maxLocals = 2 := hml
  have ef : entryFrame m #[.ref a1, .int (27 : Int32)] 2 = (mkF m 0 #[.val (.ref a1), .val (.int (27 : Int32))] []) := by first | (simp [entryFrame, mkF, argsToLocals, Value.category]; done) | rfl
  rw [ef]
  refine own_go (fun t k => XS.aloadN X0.here hx rfl (hb hby d2_0) rfl rfl k) ?_
  show own_G p e below _ T0 (mkF m 1 #[.val (.ref a1), .val (.int (27 : Int32))] [(.ref a1)])
  refine own_go (fun t k => XS.iloadN X0.here hx rfl (hb hby d2_1) rfl k) ?_
  show own_G p e below _ T0 (mkF m 2 #[.val (.ref a1), .val (.int (27 : Int32))] [(.int (27 : Int32)), (.ref a1)])
  obtain ⟨T1, L1, v1, X1, ⟨rfl, rfl, q1⟩, st1⟩ := own_callS X0 hx hZ (y := (⟨"com/example/compensa/compensa/CheckDigitsGeneralDigitPinLaw", "run7", "([CI)I"⟩ : MethodName)) hown (hw _ (List.mem_of_getElem? (i := 10) rfl)) (hw _ (List.mem_of_getElem? (i := 11) rfl)) (hw _ (List.mem_of_getElem? (i := 3) rfl)) (hw _ (List.mem_of_getElem? (i := 12) rfl)) (by decide) (c_run7_27 l Z a0 hw a1 cl W h0 Ar hsz hat) e0 (argsL := [(.ref a1), (.int (27 : Int32))]) (rest := []) (g := (mkF m 2 #[.val (.ref a1), .val (.int (27 : Int32))] [(.int (27 : Int32)), (.ref a1)])) rfl (by rw [hml]; rfl) (ps := [(.array .char), .int]) (r := (some .int)) (by decide +kernel) rfl rfl (W := 0) (by show 2 * 0 + _ ≤ _; exact Nat.le_of_eq rfl) (hb hby d2_2) (by decide) (by decide) (by decide) (by decide)
  refine own_go st1 ?_
  show own_G p e below _ T1 (mkF m 5 #[.val (.ref a1), .val (.int (27 : Int32))] [(.int (own_r7 W 27))])
  refine own_go (fun t k => XS.bipush X1.here hx rfl (hb hby d2_5) k) ?_
  show own_G p e below _ T1 (mkF m 7 #[.val (.ref a1), .val (.int (27 : Int32))] [(.int (9 : Int32)), (.int (own_r7 W 27))])
  refine own_go (fun t k => XS.aloadN X1.here hx rfl (hb hby d2_7) rfl rfl k) ?_
  show own_G p e below _ T1 (mkF m 8 #[.val (.ref a1), .val (.int (27 : Int32))] [(.ref a1), (.int (9 : Int32)), (.int (own_r7 W 27))])
  refine own_go (fun t k => XS.iloadN X1.here hx rfl (hb hby d2_8) rfl k) ?_
  show own_G p e below _ T1 (mkF m 9 #[.val (.ref a1), .val (.int (27 : Int32))] [(.int (27 : Int32)), (.ref a1), (.int (9 : Int32)), (.int (own_r7 W 27))])
  refine own_go (fun t k => XS.bipush X1.here hx rfl (hb hby d2_9) k) ?_
  show own_G p e below _ T1 (mkF m 11 #[.val (.ref a1), .val (.int (27 : Int32))] [(.int (7 : Int32)), (.int (27 : Int32)), (.ref a1), (.int (9 : Int32)), (.int (own_r7 W 27))])
  refine own_go (fun t k => XS.isub X1.here hx rfl (hb hby d2_11) rfl k) ?_
  show own_G p e below _ T1 (mkF m 12 #[.val (.ref a1), .val (.int (27 : Int32))] [(.int (20 : Int32)), (.ref a1), (.int (9 : Int32)), (.int (own_r7 W 27))])
  obtain ⟨T2, L2, v2, X2, ⟨rfl, rfl, q2⟩, st2⟩ := own_callS X1 hx hZ (y := (⟨"com/example/compensa/compensa/CheckDigitsGeneralDigitPinLaw", "d", "([CI)I"⟩ : MethodName)) hown (hw _ (List.mem_of_getElem? (i := 13) rfl)) (hw _ (List.mem_of_getElem? (i := 14) rfl)) (hw _ (List.mem_of_getElem? (i := 3) rfl)) (hw _ (List.mem_of_getElem? (i := 15) rfl)) (by decide) (c_d l Z a0 hw a1 cl (20 : Int32) (W 20) h0 Ar (own_in hsz (by decide)) (hat 20 (by decide))) q1 (argsL := [(.ref a1), (.int (20 : Int32))]) (rest := [(.int (9 : Int32)), (.int (own_r7 W 27))]) (g := (mkF m 12 #[.val (.ref a1), .val (.int (27 : Int32))] [(.int (20 : Int32)), (.ref a1), (.int (9 : Int32)), (.int (own_r7 W 27))])) rfl (by rw [hml]; rfl) (ps := [(.array .char), .int]) (r := (some .int)) (by decide +kernel) rfl rfl (W := 2) (by show 2 * 0 + _ ≤ _; exact Nat.le_of_eq rfl) (hb hby d2_12) (by decide) (by decide) (by decide) (by decide)
  refine own_go st2 ?_
  show own_G p e below _ T2 (mkF m 15 #[.val (.ref a1), .val (.int (27 : Int32))] [(.int (W 20 - (48 : Int32))), (.int (9 : Int32)), (.int (own_r7 W 27))])
  refine own_go (fun t k => XS.imul X2.here hx rfl (hb hby d2_15) rfl k) ?_
  show own_G p e below _ T2 (mkF m 16 #[.val (.ref a1), .val (.int (27 : Int32))] [(.int ((9 : Int32) * (W 20 - (48 : Int32)))), (.int (own_r7 W 27))])
  refine own_go (fun t k => XS.iadd X2.here hx rfl (hb hby d2_16) rfl k) ?_
  show own_G p e below _ T2 (mkF m 17 #[.val (.ref a1), .val (.int (27 : Int32))] [(.int ((own_r7 W 27) + ((9 : Int32) * (W 20 - (48 : Int32)))))])
  exact own_retI X2 hx hlk hret (hb hby d2_17) (by decide) (by decide) ⟨rfl, rfl, q2⟩
set_option maxRecDepth 65536 in
set_option maxHeartbeats 40000000 in
theorem c_run8_19 (l : Launch) (Z : State) (a0 : Array Value) (hw : ∀ d ∈ tables_1, d.before a0 Z = true) (a1 : Addr) (cl : Cell) (W : Nat → Int32) (h0 : Heap) (Ar : Arr Z h0 a1 cl .char) (hsz : cl.slots.size = 44) (hat : ∀ i, i < 44 → cl.slots[i]? = some (.int (W i))) :
    own_M l Z (⟨"com/example/compensa/compensa/CheckDigitsGeneralDigitPinLaw", "run8", "([CI)I"⟩ : MethodName) method_5_code 2 (some .int) ⟨2, 0, 0, 60⟩ #[.ref a1, .int (19 : Int32)] h0 (fun v h L => v = some (.int (own_r8 W 19)) ∧ L = [] ∧ h = h0) := by
  refine own_body pn_2 ?_
  intro p e s m below meth c T0 hx hby hml hlk hown hret hnm hZ X0 e0
  replace hown : s.vm.findClass "com/example/compensa/compensa/CheckDigitsGeneralDigitPinLaw" = some m.cls := hown
  replace hml : c.maxLocals = 2 := hml
  have ef : entryFrame m #[.ref a1, .int (19 : Int32)] 2 = (mkF m 0 #[.val (.ref a1), .val (.int (19 : Int32))] []) := by first | (simp [entryFrame, mkF, argsToLocals, Value.category]; done) | rfl
  rw [ef]
  refine own_go (fun t k => XS.aloadN X0.here hx rfl (hb hby d2_0) rfl rfl k) ?_
  show own_G p e below _ T0 (mkF m 1 #[.val (.ref a1), .val (.int (19 : Int32))] [(.ref a1)])
  refine own_go (fun t k => XS.iloadN X0.here hx rfl (hb hby d2_1) rfl k) ?_
  show own_G p e below _ T0 (mkF m 2 #[.val (.ref a1), .val (.int (19 : Int32))] [(.int (19 : Int32)), (.ref a1)])
  obtain ⟨T1, L1, v1, X1, ⟨rfl, rfl, q1⟩, st1⟩ := own_callS X0 hx hZ (y := (⟨"com/example/compensa/compensa/CheckDigitsGeneralDigitPinLaw", "run7", "([CI)I"⟩ : MethodName)) hown (hw _ (List.mem_of_getElem? (i := 10) rfl)) (hw _ (List.mem_of_getElem? (i := 11) rfl)) (hw _ (List.mem_of_getElem? (i := 3) rfl)) (hw _ (List.mem_of_getElem? (i := 12) rfl)) (by decide) (c_run7_19 l Z a0 hw a1 cl W h0 Ar hsz hat) e0 (argsL := [(.ref a1), (.int (19 : Int32))]) (rest := []) (g := (mkF m 2 #[.val (.ref a1), .val (.int (19 : Int32))] [(.int (19 : Int32)), (.ref a1)])) rfl (by rw [hml]; rfl) (ps := [(.array .char), .int]) (r := (some .int)) (by decide +kernel) rfl rfl (W := 0) (by show 2 * 0 + _ ≤ _; exact Nat.le_of_eq rfl) (hb hby d2_2) (by decide) (by decide) (by decide) (by decide)
  refine own_go st1 ?_
  show own_G p e below _ T1 (mkF m 5 #[.val (.ref a1), .val (.int (19 : Int32))] [(.int (own_r7 W 19))])
  refine own_go (fun t k => XS.bipush X1.here hx rfl (hb hby d2_5) k) ?_
  show own_G p e below _ T1 (mkF m 7 #[.val (.ref a1), .val (.int (19 : Int32))] [(.int (9 : Int32)), (.int (own_r7 W 19))])
  refine own_go (fun t k => XS.aloadN X1.here hx rfl (hb hby d2_7) rfl rfl k) ?_
  show own_G p e below _ T1 (mkF m 8 #[.val (.ref a1), .val (.int (19 : Int32))] [(.ref a1), (.int (9 : Int32)), (.int (own_r7 W 19))])
  refine own_go (fun t k => XS.iloadN X1.here hx rfl (hb hby d2_8) rfl k) ?_
  show own_G p e below _ T1 (mkF m 9 #[.val (.ref a1), .val (.int (19 : Int32))] [(.int (19 : Int32)), (.ref a1), (.int (9 : Int32)), (.int (own_r7 W 19))])
  refine own_go (fun t k => XS.bipush X1.here hx rfl (hb hby d2_9) k) ?_
  show own_G p e below _ T1 (mkF m 11 #[.val (.ref a1), .val (.int (19 : Int32))] [(.int (7 : Int32)), (.int (19 : Int32)), (.ref a1), (.int (9 : Int32)), (.int (own_r7 W 19))])
  refine own_go (fun t k => XS.isub X1.here hx rfl (hb hby d2_11) rfl k) ?_
  show own_G p e below _ T1 (mkF m 12 #[.val (.ref a1), .val (.int (19 : Int32))] [(.int (12 : Int32)), (.ref a1), (.int (9 : Int32)), (.int (own_r7 W 19))])
  obtain ⟨T2, L2, v2, X2, ⟨rfl, rfl, q2⟩, st2⟩ := own_callS X1 hx hZ (y := (⟨"com/example/compensa/compensa/CheckDigitsGeneralDigitPinLaw", "d", "([CI)I"⟩ : MethodName)) hown (hw _ (List.mem_of_getElem? (i := 13) rfl)) (hw _ (List.mem_of_getElem? (i := 14) rfl)) (hw _ (List.mem_of_getElem? (i := 3) rfl)) (hw _ (List.mem_of_getElem? (i := 15) rfl)) (by decide) (c_d l Z a0 hw a1 cl (12 : Int32) (W 12) h0 Ar (own_in hsz (by decide)) (hat 12 (by decide))) q1 (argsL := [(.ref a1), (.int (12 : Int32))]) (rest := [(.int (9 : Int32)), (.int (own_r7 W 19))]) (g := (mkF m 12 #[.val (.ref a1), .val (.int (19 : Int32))] [(.int (12 : Int32)), (.ref a1), (.int (9 : Int32)), (.int (own_r7 W 19))])) rfl (by rw [hml]; rfl) (ps := [(.array .char), .int]) (r := (some .int)) (by decide +kernel) rfl rfl (W := 2) (by show 2 * 0 + _ ≤ _; exact Nat.le_of_eq rfl) (hb hby d2_12) (by decide) (by decide) (by decide) (by decide)
  refine own_go st2 ?_
  show own_G p e below _ T2 (mkF m 15 #[.val (.ref a1), .val (.int (19 : Int32))] [(.int (W 12 - (48 : Int32))), (.int (9 : Int32)), (.int (own_r7 W 19))])
  refine own_go (fun t k => XS.imul X2.here hx rfl (hb hby d2_15) rfl k) ?_
  show own_G p e below _ T2 (mkF m 16 #[.val (.ref a1), .val (.int (19 : Int32))] [(.int ((9 : Int32) * (W 12 - (48 : Int32)))), (.int (own_r7 W 19))])
  refine own_go (fun t k => XS.iadd X2.here hx rfl (hb hby d2_16) rfl k) ?_
  show own_G p e below _ T2 (mkF m 17 #[.val (.ref a1), .val (.int (19 : Int32))] [(.int ((own_r7 W 19) + ((9 : Int32) * (W 12 - (48 : Int32)))))])
  exact own_retI X2 hx hlk hret (hb hby d2_17) (by decide) (by decide) ⟨rfl, rfl, q2⟩
def own_g (S : Int32) : Int32 := if (11 - S % 11) < (10 : Int32) then (11 - S % 11) else 1
theorem d5_0 : decode prog_18_method_7_code 0 = .ok (.iconst 0, 1) := by decide +kernel
theorem d5_1 : decode prog_18_method_7_code 1 = .ok (.istore_n 1, 1) := by decide +kernel
theorem d5_2 : decode prog_18_method_7_code 2 = .ok (.iconst 0, 1) := by decide +kernel
theorem d5_3 : decode prog_18_method_7_code 3 = .ok (.istore_n 2, 1) := by decide +kernel
theorem d5_4 : decode prog_18_method_7_code 4 = .ok (.iload_n 2, 1) := by decide +kernel
theorem d5_5 : decode prog_18_method_7_code 5 = .ok (.bipush 44, 2) := by decide +kernel
theorem d5_7 : decode prog_18_method_7_code 7 = .ok (.if_icmp .ge 24, 3) := by decide +kernel
theorem d5_10 : decode prog_18_method_7_code 10 = .ok (.iload_n 1, 1) := by decide +kernel
theorem d5_11 : decode prog_18_method_7_code 11 = .ok (.aload_n 0, 1) := by decide +kernel
theorem d5_12 : decode prog_18_method_7_code 12 = .ok (.iload_n 2, 1) := by decide +kernel
theorem d5_13 : decode prog_18_method_7_code 13 = .ok (.caload, 1) := by decide +kernel
theorem d5_14 : decode prog_18_method_7_code 14 = .ok (.bipush 48, 2) := by decide +kernel
theorem d5_16 : decode prog_18_method_7_code 16 = .ok (.isub, 1) := by decide +kernel
theorem d5_17 : decode prog_18_method_7_code 17 = .ok (.getstatic 29, 3) := by decide +kernel
theorem d5_20 : decode prog_18_method_7_code 20 = .ok (.iload_n 2, 1) := by decide +kernel
theorem d5_21 : decode prog_18_method_7_code 21 = .ok (.iaload, 1) := by decide +kernel
theorem d5_22 : decode prog_18_method_7_code 22 = .ok (.imul, 1) := by decide +kernel
theorem d5_23 : decode prog_18_method_7_code 23 = .ok (.iadd, 1) := by decide +kernel
theorem d5_24 : decode prog_18_method_7_code 24 = .ok (.istore_n 1, 1) := by decide +kernel
theorem d5_25 : decode prog_18_method_7_code 25 = .ok (.iinc 2 1, 3) := by decide +kernel
theorem d5_28 : decode prog_18_method_7_code 28 = .ok (.goto (-24), 3) := by decide +kernel
theorem d5_31 : decode prog_18_method_7_code 31 = .ok (.bipush 11, 2) := by decide +kernel
theorem d5_33 : decode prog_18_method_7_code 33 = .ok (.iload_n 1, 1) := by decide +kernel
theorem d5_34 : decode prog_18_method_7_code 34 = .ok (.bipush 11, 2) := by decide +kernel
theorem d5_36 : decode prog_18_method_7_code 36 = .ok (.irem, 1) := by decide +kernel
theorem d5_37 : decode prog_18_method_7_code 37 = .ok (.isub, 1) := by decide +kernel
theorem d5_38 : decode prog_18_method_7_code 38 = .ok (.istore_n 2, 1) := by decide +kernel
theorem d5_39 : decode prog_18_method_7_code 39 = .ok (.iload_n 2, 1) := by decide +kernel
theorem d5_40 : decode prog_18_method_7_code 40 = .ok (.bipush 10, 2) := by decide +kernel
theorem d5_42 : decode prog_18_method_7_code 42 = .ok (.if_icmp .lt 7, 3) := by decide +kernel
theorem d5_45 : decode prog_18_method_7_code 45 = .ok (.iconst 1, 1) := by decide +kernel
theorem d5_46 : decode prog_18_method_7_code 46 = .ok (.goto 4, 3) := by decide +kernel
theorem d5_49 : decode prog_18_method_7_code 49 = .ok (.iload_n 2, 1) := by decide +kernel
theorem d5_50 : decode prog_18_method_7_code 50 = .ok (.ireturn, 1) := by decide +kernel
theorem pn_5 : plainFor (⟨"com/example/compensa/compensa/CheckDigits", "generalDigit", "([C)I"⟩ : MethodName) = true := by first | exact plainFor_of_name (by first | (simp [plainName, overriddenIn]; done) | decide +kernel) | decide +kernel
set_option maxRecDepth 65536 in
set_option maxHeartbeats 40000000 in
theorem c_gd (l : Launch) (Z : State) (a0 : Array Value) (hw : ∀ d ∈ tables_1, d.before a0 Z = true) (a_GENERAL_DIGIT_WEIGHTS : Addr) (cl_GENERAL_DIGIT_WEIGHTS : Cell) (a1 : Addr) (cl : Cell) (W : Nat → Int32) (h0 : Heap) (B : own_B Z h0 a_GENERAL_DIGIT_WEIGHTS cl_GENERAL_DIGIT_WEIGHTS) (Ar : Arr Z h0 a1 cl .char) (hsz : cl.slots.size = 44) (hat : ∀ i, i < 44 → cl.slots[i]? = some (.int (W i))) :
    own_M l Z (⟨"com/example/compensa/compensa/CheckDigits", "generalDigit", "([C)I"⟩ : MethodName) prog_18_method_7_code 3 (some .int) ⟨0, 0, 0, 0⟩ #[.ref a1] h0 (fun v h L => v = some (.int (own_g (own_acc W 44))) ∧ L = [] ∧ h = h0) := by
  refine own_body pn_5 ?_
  intro p e s m below meth c T0 hx hby hml hlk hown hret hnm hZ X0 e0
  replace hown : s.vm.findClass "com/example/compensa/compensa/CheckDigits" = some m.cls := hown
  replace hml : c.maxLocals = 3 := hml
  obtain ⟨S_GENERAL_DIGIT_WEIGHTS, A_GENERAL_DIGIT_WEIGHTS, Z_GENERAL_DIGIT_WEIGHTS, V_GENERAL_DIGIT_WEIGHTS_0, V_GENERAL_DIGIT_WEIGHTS_1, V_GENERAL_DIGIT_WEIGHTS_2, V_GENERAL_DIGIT_WEIGHTS_3, V_GENERAL_DIGIT_WEIGHTS_4, V_GENERAL_DIGIT_WEIGHTS_5, V_GENERAL_DIGIT_WEIGHTS_6, V_GENERAL_DIGIT_WEIGHTS_7, V_GENERAL_DIGIT_WEIGHTS_8, V_GENERAL_DIGIT_WEIGHTS_9, V_GENERAL_DIGIT_WEIGHTS_10, V_GENERAL_DIGIT_WEIGHTS_11, V_GENERAL_DIGIT_WEIGHTS_12, V_GENERAL_DIGIT_WEIGHTS_13, V_GENERAL_DIGIT_WEIGHTS_14, V_GENERAL_DIGIT_WEIGHTS_15, V_GENERAL_DIGIT_WEIGHTS_16, V_GENERAL_DIGIT_WEIGHTS_17, V_GENERAL_DIGIT_WEIGHTS_18, V_GENERAL_DIGIT_WEIGHTS_19, V_GENERAL_DIGIT_WEIGHTS_20, V_GENERAL_DIGIT_WEIGHTS_21, V_GENERAL_DIGIT_WEIGHTS_22, V_GENERAL_DIGIT_WEIGHTS_23, V_GENERAL_DIGIT_WEIGHTS_24, V_GENERAL_DIGIT_WEIGHTS_25, V_GENERAL_DIGIT_WEIGHTS_26, V_GENERAL_DIGIT_WEIGHTS_27, V_GENERAL_DIGIT_WEIGHTS_28, V_GENERAL_DIGIT_WEIGHTS_29, V_GENERAL_DIGIT_WEIGHTS_30, V_GENERAL_DIGIT_WEIGHTS_31, V_GENERAL_DIGIT_WEIGHTS_32, V_GENERAL_DIGIT_WEIGHTS_33, V_GENERAL_DIGIT_WEIGHTS_34, V_GENERAL_DIGIT_WEIGHTS_35, V_GENERAL_DIGIT_WEIGHTS_36, V_GENERAL_DIGIT_WEIGHTS_37, V_GENERAL_DIGIT_WEIGHTS_38, V_GENERAL_DIGIT_WEIGHTS_39, V_GENERAL_DIGIT_WEIGHTS_40, V_GENERAL_DIGIT_WEIGHTS_41, V_GENERAL_DIGIT_WEIGHTS_42, V_GENERAL_DIGIT_WEIGHTS_43⟩ := id B
  have ef : entryFrame m #[.ref a1] 3 = (mkF m 0 #[.val (.ref a1), .unset, .unset] []) := by first | (simp [entryFrame, mkF, argsToLocals, Value.category]; done) | rfl
  rw [ef]
  refine own_go (fun t k => XS.iconst X0.here hx rfl (hb hby d5_0) k) ?_
  show own_G p e below _ T0 (mkF m 1 #[.val (.ref a1), .unset, .unset] [(.int (0 : Int32))])
  refine own_go (fun t k => XS.istoreN X0.here hx rfl (hb hby d5_1) rfl (l' := #[.val (.ref a1), .val (.int (0 : Int32)), .unset]) rfl k) ?_
  show own_G p e below _ T0 (mkF m 2 #[.val (.ref a1), .val (.int (0 : Int32)), .unset] [])
  refine own_go (fun t k => XS.iconst X0.here hx rfl (hb hby d5_2) k) ?_
  show own_G p e below _ T0 (mkF m 3 #[.val (.ref a1), .val (.int (0 : Int32)), .unset] [(.int (0 : Int32))])
  refine own_go (fun t k => XS.istoreN X0.here hx rfl (hb hby d5_3) rfl (l' := #[.val (.ref a1), .val (.int (0 : Int32)), .val (.int (0 : Int32))]) rfl k) ?_
  show own_G p e below _ T0 (mkF m 4 #[.val (.ref a1), .val (.int (0 : Int32)), .val (.int (0 : Int32))] [])
  refine own_go (fun t k => XS.iloadN X0.here hx rfl (hb hby d5_4) rfl k) ?_
  show own_G p e below _ T0 (mkF m 5 #[.val (.ref a1), .val (.int (0 : Int32)), .val (.int (0 : Int32))] [(.int (0 : Int32))])
  refine own_go (fun t k => XS.bipush X0.here hx rfl (hb hby d5_5) k) ?_
  show own_G p e below _ T0 (mkF m 7 #[.val (.ref a1), .val (.int (0 : Int32)), .val (.int (0 : Int32))] [(.int (44 : Int32)), (.int (0 : Int32))])
  refine own_go (fun t k => XS.icmpNo X0.here hx rfl (hb hby d5_7) rfl (by decide) k) ?_
  show own_G p e below _ T0 (mkF m 10 #[.val (.ref a1), .val (.int (0 : Int32)), .val (.int (0 : Int32))] [])
  refine own_go (fun t k => XS.iloadN X0.here hx rfl (hb hby d5_10) rfl k) ?_
  show own_G p e below _ T0 (mkF m 11 #[.val (.ref a1), .val (.int (0 : Int32)), .val (.int (0 : Int32))] [(.int (0 : Int32))])
  refine own_go (fun t k => XS.aloadN X0.here hx rfl (hb hby d5_11) rfl rfl k) ?_
  show own_G p e below _ T0 (mkF m 12 #[.val (.ref a1), .val (.int (0 : Int32)), .val (.int (0 : Int32))] [(.ref a1), (.int (0 : Int32))])
  refine own_go (fun t k => XS.iloadN X0.here hx rfl (hb hby d5_12) rfl k) ?_
  show own_G p e below _ T0 (mkF m 13 #[.val (.ref a1), .val (.int (0 : Int32)), .val (.int (0 : Int32))] [(.int (0 : Int32)), (.ref a1), (.int (0 : Int32))])
  refine own_go (X0.caload hx (j := (0 : Int32)) (v := .int (W 0)) (own_cellAt e0 Ar) (State.isArrayOf_alike hZ.alike Ar.2.1) Ar.2.2 (own_in hsz (by decide)) (hat 0 (by decide)) (g := (mkF m 13 #[.val (.ref a1), .val (.int (0 : Int32)), .val (.int (0 : Int32))] [(.int (0 : Int32)), (.ref a1), (.int (0 : Int32))])) rfl rfl (hb hby d5_13)) ?_
  show own_G p e below _ T0 (mkF m 14 #[.val (.ref a1), .val (.int (0 : Int32)), .val (.int (0 : Int32))] [(.int (W 0)), (.int (0 : Int32))])
  refine own_go (fun t k => XS.bipush X0.here hx rfl (hb hby d5_14) k) ?_
  show own_G p e below _ T0 (mkF m 16 #[.val (.ref a1), .val (.int (0 : Int32)), .val (.int (0 : Int32))] [(.int (48 : Int32)), (.int (W 0)), (.int (0 : Int32))])
  refine own_go (fun t k => XS.isub X0.here hx rfl (hb hby d5_16) rfl k) ?_
  show own_G p e below _ T0 (mkF m 17 #[.val (.ref a1), .val (.int (0 : Int32)), .val (.int (0 : Int32))] [(.int ((W 0) - (48 : Int32))), (.int (0 : Int32))])
  obtain ⟨T1, X1, e1, st1⟩ := getS X0 hx hZ hown (host := "") (hw _ (List.mem_of_getElem? (i := 20) rfl)) Via.refl e0 S_GENERAL_DIGIT_WEIGHTS (g := (mkF m 17 #[.val (.ref a1), .val (.int (0 : Int32)), .val (.int (0 : Int32))] [(.int ((W 0) - (48 : Int32))), (.int (0 : Int32))])) rfl (hb hby d5_17)
  refine own_go st1 ?_
  show own_G p e below _ T1 (mkF m 20 #[.val (.ref a1), .val (.int (0 : Int32)), .val (.int (0 : Int32))] [(.ref a_GENERAL_DIGIT_WEIGHTS), (.int ((W 0) - (48 : Int32))), (.int (0 : Int32))])
  refine own_go (fun t k => XS.iloadN X1.here hx rfl (hb hby d5_20) rfl k) ?_
  show own_G p e below _ T1 (mkF m 21 #[.val (.ref a1), .val (.int (0 : Int32)), .val (.int (0 : Int32))] [(.int (0 : Int32)), (.ref a_GENERAL_DIGIT_WEIGHTS), (.int ((W 0) - (48 : Int32))), (.int (0 : Int32))])
  refine own_go (X1.iaload hx (j := (0 : Int32)) (v := (.int (4 : Int32))) (own_cellAt e1 A_GENERAL_DIGIT_WEIGHTS) (State.isArrayOf_alike hZ.alike A_GENERAL_DIGIT_WEIGHTS.2.1) A_GENERAL_DIGIT_WEIGHTS.2.2 (own_in Z_GENERAL_DIGIT_WEIGHTS (by decide)) V_GENERAL_DIGIT_WEIGHTS_0 (g := (mkF m 21 #[.val (.ref a1), .val (.int (0 : Int32)), .val (.int (0 : Int32))] [(.int (0 : Int32)), (.ref a_GENERAL_DIGIT_WEIGHTS), (.int ((W 0) - (48 : Int32))), (.int (0 : Int32))])) rfl rfl (hb hby d5_21)) ?_
  show own_G p e below _ T1 (mkF m 22 #[.val (.ref a1), .val (.int (0 : Int32)), .val (.int (0 : Int32))] [(.int (4 : Int32)), (.int ((W 0) - (48 : Int32))), (.int (0 : Int32))])
  refine own_go (fun t k => XS.imul X1.here hx rfl (hb hby d5_22) rfl k) ?_
  show own_G p e below _ T1 (mkF m 23 #[.val (.ref a1), .val (.int (0 : Int32)), .val (.int (0 : Int32))] [(.int (((W 0) - (48 : Int32)) * (4 : Int32))), (.int (0 : Int32))])
  refine own_go (fun t k => XS.iadd X1.here hx rfl (hb hby d5_23) rfl k) ?_
  show own_G p e below _ T1 (mkF m 24 #[.val (.ref a1), .val (.int (0 : Int32)), .val (.int (0 : Int32))] [(.int (own_acc W 1))])
  refine own_go (fun t k => XS.istoreN X1.here hx rfl (hb hby d5_24) rfl (l' := #[.val (.ref a1), .val (.int (own_acc W 1)), .val (.int (0 : Int32))]) rfl k) ?_
  show own_G p e below _ T1 (mkF m 25 #[.val (.ref a1), .val (.int (own_acc W 1)), .val (.int (0 : Int32))] [])
  refine own_go (fun t k => XS.iinc X1.here hx rfl (hb hby d5_25) rfl (l' := #[.val (.ref a1), .val (.int (own_acc W 1)), .val (.int (1 : Int32))]) rfl k) ?_
  show own_G p e below _ T1 (mkF m 28 #[.val (.ref a1), .val (.int (own_acc W 1)), .val (.int (1 : Int32))] [])
  refine own_go (fun t k => XS.goto X1.here hx rfl (pc0 := 28) (pc' := 4) rfl (hb hby d5_28) (by decide) (by decide) k) ?_
  show own_G p e below _ T1 (mkF m 4 #[.val (.ref a1), .val (.int (own_acc W 1)), .val (.int (1 : Int32))] [])
  refine own_go (fun t k => XS.iloadN X1.here hx rfl (hb hby d5_4) rfl k) ?_
  show own_G p e below _ T1 (mkF m 5 #[.val (.ref a1), .val (.int (own_acc W 1)), .val (.int (1 : Int32))] [(.int (1 : Int32))])
  refine own_go (fun t k => XS.bipush X1.here hx rfl (hb hby d5_5) k) ?_
  show own_G p e below _ T1 (mkF m 7 #[.val (.ref a1), .val (.int (own_acc W 1)), .val (.int (1 : Int32))] [(.int (44 : Int32)), (.int (1 : Int32))])
  refine own_go (fun t k => XS.icmpNo X1.here hx rfl (hb hby d5_7) rfl (by decide) k) ?_
  show own_G p e below _ T1 (mkF m 10 #[.val (.ref a1), .val (.int (own_acc W 1)), .val (.int (1 : Int32))] [])
  refine own_go (fun t k => XS.iloadN X1.here hx rfl (hb hby d5_10) rfl k) ?_
  show own_G p e below _ T1 (mkF m 11 #[.val (.ref a1), .val (.int (own_acc W 1)), .val (.int (1 : Int32))] [(.int (own_acc W 1))])
  refine own_go (fun t k => XS.aloadN X1.here hx rfl (hb hby d5_11) rfl rfl k) ?_
  show own_G p e below _ T1 (mkF m 12 #[.val (.ref a1), .val (.int (own_acc W 1)), .val (.int (1 : Int32))] [(.ref a1), (.int (own_acc W 1))])
  refine own_go (fun t k => XS.iloadN X1.here hx rfl (hb hby d5_12) rfl k) ?_
  show own_G p e below _ T1 (mkF m 13 #[.val (.ref a1), .val (.int (own_acc W 1)), .val (.int (1 : Int32))] [(.int (1 : Int32)), (.ref a1), (.int (own_acc W 1))])
  refine own_go (X1.caload hx (j := (1 : Int32)) (v := .int (W 1)) (own_cellAt e1 Ar) (State.isArrayOf_alike hZ.alike Ar.2.1) Ar.2.2 (own_in hsz (by decide)) (hat 1 (by decide)) (g := (mkF m 13 #[.val (.ref a1), .val (.int (own_acc W 1)), .val (.int (1 : Int32))] [(.int (1 : Int32)), (.ref a1), (.int (own_acc W 1))])) rfl rfl (hb hby d5_13)) ?_
  show own_G p e below _ T1 (mkF m 14 #[.val (.ref a1), .val (.int (own_acc W 1)), .val (.int (1 : Int32))] [(.int (W 1)), (.int (own_acc W 1))])
  refine own_go (fun t k => XS.bipush X1.here hx rfl (hb hby d5_14) k) ?_
  show own_G p e below _ T1 (mkF m 16 #[.val (.ref a1), .val (.int (own_acc W 1)), .val (.int (1 : Int32))] [(.int (48 : Int32)), (.int (W 1)), (.int (own_acc W 1))])
  refine own_go (fun t k => XS.isub X1.here hx rfl (hb hby d5_16) rfl k) ?_
  show own_G p e below _ T1 (mkF m 17 #[.val (.ref a1), .val (.int (own_acc W 1)), .val (.int (1 : Int32))] [(.int ((W 1) - (48 : Int32))), (.int (own_acc W 1))])
  obtain ⟨T2, X2, e2, st2⟩ := getS X1 hx hZ hown (host := "") (hw _ (List.mem_of_getElem? (i := 20) rfl)) Via.refl e1 S_GENERAL_DIGIT_WEIGHTS (g := (mkF m 17 #[.val (.ref a1), .val (.int (own_acc W 1)), .val (.int (1 : Int32))] [(.int ((W 1) - (48 : Int32))), (.int (own_acc W 1))])) rfl (hb hby d5_17)
  refine own_go st2 ?_
  show own_G p e below _ T2 (mkF m 20 #[.val (.ref a1), .val (.int (own_acc W 1)), .val (.int (1 : Int32))] [(.ref a_GENERAL_DIGIT_WEIGHTS), (.int ((W 1) - (48 : Int32))), (.int (own_acc W 1))])
  refine own_go (fun t k => XS.iloadN X2.here hx rfl (hb hby d5_20) rfl k) ?_
  show own_G p e below _ T2 (mkF m 21 #[.val (.ref a1), .val (.int (own_acc W 1)), .val (.int (1 : Int32))] [(.int (1 : Int32)), (.ref a_GENERAL_DIGIT_WEIGHTS), (.int ((W 1) - (48 : Int32))), (.int (own_acc W 1))])
  refine own_go (X2.iaload hx (j := (1 : Int32)) (v := (.int (3 : Int32))) (own_cellAt e2 A_GENERAL_DIGIT_WEIGHTS) (State.isArrayOf_alike hZ.alike A_GENERAL_DIGIT_WEIGHTS.2.1) A_GENERAL_DIGIT_WEIGHTS.2.2 (own_in Z_GENERAL_DIGIT_WEIGHTS (by decide)) V_GENERAL_DIGIT_WEIGHTS_1 (g := (mkF m 21 #[.val (.ref a1), .val (.int (own_acc W 1)), .val (.int (1 : Int32))] [(.int (1 : Int32)), (.ref a_GENERAL_DIGIT_WEIGHTS), (.int ((W 1) - (48 : Int32))), (.int (own_acc W 1))])) rfl rfl (hb hby d5_21)) ?_
  show own_G p e below _ T2 (mkF m 22 #[.val (.ref a1), .val (.int (own_acc W 1)), .val (.int (1 : Int32))] [(.int (3 : Int32)), (.int ((W 1) - (48 : Int32))), (.int (own_acc W 1))])
  refine own_go (fun t k => XS.imul X2.here hx rfl (hb hby d5_22) rfl k) ?_
  show own_G p e below _ T2 (mkF m 23 #[.val (.ref a1), .val (.int (own_acc W 1)), .val (.int (1 : Int32))] [(.int (((W 1) - (48 : Int32)) * (3 : Int32))), (.int (own_acc W 1))])
  refine own_go (fun t k => XS.iadd X2.here hx rfl (hb hby d5_23) rfl k) ?_
  show own_G p e below _ T2 (mkF m 24 #[.val (.ref a1), .val (.int (own_acc W 1)), .val (.int (1 : Int32))] [(.int (own_acc W 2))])
  refine own_go (fun t k => XS.istoreN X2.here hx rfl (hb hby d5_24) rfl (l' := #[.val (.ref a1), .val (.int (own_acc W 2)), .val (.int (1 : Int32))]) rfl k) ?_
  show own_G p e below _ T2 (mkF m 25 #[.val (.ref a1), .val (.int (own_acc W 2)), .val (.int (1 : Int32))] [])
  refine own_go (fun t k => XS.iinc X2.here hx rfl (hb hby d5_25) rfl (l' := #[.val (.ref a1), .val (.int (own_acc W 2)), .val (.int (2 : Int32))]) rfl k) ?_
  show own_G p e below _ T2 (mkF m 28 #[.val (.ref a1), .val (.int (own_acc W 2)), .val (.int (2 : Int32))] [])
  refine own_go (fun t k => XS.goto X2.here hx rfl (pc0 := 28) (pc' := 4) rfl (hb hby d5_28) (by decide) (by decide) k) ?_
  show own_G p e below _ T2 (mkF m 4 #[.val (.ref a1), .val (.int (own_acc W 2)), .val (.int (2 : Int32))] [])
  refine own_go (fun t k => XS.iloadN X2.here hx rfl (hb hby d5_4) rfl k) ?_
  show own_G p e below _ T2 (mkF m 5 #[.val (.ref a1), .val (.int (own_acc W 2)), .val (.int (2 : Int32))] [(.int (2 : Int32))])
  refine own_go (fun t k => XS.bipush X2.here hx rfl (hb hby d5_5) k) ?_
  show own_G p e below _ T2 (mkF m 7 #[.val (.ref a1), .val (.int (own_acc W 2)), .val (.int (2 : Int32))] [(.int (44 : Int32)), (.int (2 : Int32))])
  refine own_go (fun t k => XS.icmpNo X2.here hx rfl (hb hby d5_7) rfl (by decide) k) ?_
  show own_G p e below _ T2 (mkF m 10 #[.val (.ref a1), .val (.int (own_acc W 2)), .val (.int (2 : Int32))] [])
  refine own_go (fun t k => XS.iloadN X2.here hx rfl (hb hby d5_10) rfl k) ?_
  show own_G p e below _ T2 (mkF m 11 #[.val (.ref a1), .val (.int (own_acc W 2)), .val (.int (2 : Int32))] [(.int (own_acc W 2))])
  refine own_go (fun t k => XS.aloadN X2.here hx rfl (hb hby d5_11) rfl rfl k) ?_
  show own_G p e below _ T2 (mkF m 12 #[.val (.ref a1), .val (.int (own_acc W 2)), .val (.int (2 : Int32))] [(.ref a1), (.int (own_acc W 2))])
  refine own_go (fun t k => XS.iloadN X2.here hx rfl (hb hby d5_12) rfl k) ?_
  show own_G p e below _ T2 (mkF m 13 #[.val (.ref a1), .val (.int (own_acc W 2)), .val (.int (2 : Int32))] [(.int (2 : Int32)), (.ref a1), (.int (own_acc W 2))])
  refine own_go (X2.caload hx (j := (2 : Int32)) (v := .int (W 2)) (own_cellAt e2 Ar) (State.isArrayOf_alike hZ.alike Ar.2.1) Ar.2.2 (own_in hsz (by decide)) (hat 2 (by decide)) (g := (mkF m 13 #[.val (.ref a1), .val (.int (own_acc W 2)), .val (.int (2 : Int32))] [(.int (2 : Int32)), (.ref a1), (.int (own_acc W 2))])) rfl rfl (hb hby d5_13)) ?_
  show own_G p e below _ T2 (mkF m 14 #[.val (.ref a1), .val (.int (own_acc W 2)), .val (.int (2 : Int32))] [(.int (W 2)), (.int (own_acc W 2))])
  refine own_go (fun t k => XS.bipush X2.here hx rfl (hb hby d5_14) k) ?_
  show own_G p e below _ T2 (mkF m 16 #[.val (.ref a1), .val (.int (own_acc W 2)), .val (.int (2 : Int32))] [(.int (48 : Int32)), (.int (W 2)), (.int (own_acc W 2))])
  refine own_go (fun t k => XS.isub X2.here hx rfl (hb hby d5_16) rfl k) ?_
  show own_G p e below _ T2 (mkF m 17 #[.val (.ref a1), .val (.int (own_acc W 2)), .val (.int (2 : Int32))] [(.int ((W 2) - (48 : Int32))), (.int (own_acc W 2))])
  obtain ⟨T3, X3, e3, st3⟩ := getS X2 hx hZ hown (host := "") (hw _ (List.mem_of_getElem? (i := 20) rfl)) Via.refl e2 S_GENERAL_DIGIT_WEIGHTS (g := (mkF m 17 #[.val (.ref a1), .val (.int (own_acc W 2)), .val (.int (2 : Int32))] [(.int ((W 2) - (48 : Int32))), (.int (own_acc W 2))])) rfl (hb hby d5_17)
  refine own_go st3 ?_
  show own_G p e below _ T3 (mkF m 20 #[.val (.ref a1), .val (.int (own_acc W 2)), .val (.int (2 : Int32))] [(.ref a_GENERAL_DIGIT_WEIGHTS), (.int ((W 2) - (48 : Int32))), (.int (own_acc W 2))])
  refine own_go (fun t k => XS.iloadN X3.here hx rfl (hb hby d5_20) rfl k) ?_
  show own_G p e below _ T3 (mkF m 21 #[.val (.ref a1), .val (.int (own_acc W 2)), .val (.int (2 : Int32))] [(.int (2 : Int32)), (.ref a_GENERAL_DIGIT_WEIGHTS), (.int ((W 2) - (48 : Int32))), (.int (own_acc W 2))])
  refine own_go (X3.iaload hx (j := (2 : Int32)) (v := (.int (2 : Int32))) (own_cellAt e3 A_GENERAL_DIGIT_WEIGHTS) (State.isArrayOf_alike hZ.alike A_GENERAL_DIGIT_WEIGHTS.2.1) A_GENERAL_DIGIT_WEIGHTS.2.2 (own_in Z_GENERAL_DIGIT_WEIGHTS (by decide)) V_GENERAL_DIGIT_WEIGHTS_2 (g := (mkF m 21 #[.val (.ref a1), .val (.int (own_acc W 2)), .val (.int (2 : Int32))] [(.int (2 : Int32)), (.ref a_GENERAL_DIGIT_WEIGHTS), (.int ((W 2) - (48 : Int32))), (.int (own_acc W 2))])) rfl rfl (hb hby d5_21)) ?_
  show own_G p e below _ T3 (mkF m 22 #[.val (.ref a1), .val (.int (own_acc W 2)), .val (.int (2 : Int32))] [(.int (2 : Int32)), (.int ((W 2) - (48 : Int32))), (.int (own_acc W 2))])
  refine own_go (fun t k => XS.imul X3.here hx rfl (hb hby d5_22) rfl k) ?_
  show own_G p e below _ T3 (mkF m 23 #[.val (.ref a1), .val (.int (own_acc W 2)), .val (.int (2 : Int32))] [(.int (((W 2) - (48 : Int32)) * (2 : Int32))), (.int (own_acc W 2))])
  refine own_go (fun t k => XS.iadd X3.here hx rfl (hb hby d5_23) rfl k) ?_
  show own_G p e below _ T3 (mkF m 24 #[.val (.ref a1), .val (.int (own_acc W 2)), .val (.int (2 : Int32))] [(.int (own_acc W 3))])
  refine own_go (fun t k => XS.istoreN X3.here hx rfl (hb hby d5_24) rfl (l' := #[.val (.ref a1), .val (.int (own_acc W 3)), .val (.int (2 : Int32))]) rfl k) ?_
  show own_G p e below _ T3 (mkF m 25 #[.val (.ref a1), .val (.int (own_acc W 3)), .val (.int (2 : Int32))] [])
  refine own_go (fun t k => XS.iinc X3.here hx rfl (hb hby d5_25) rfl (l' := #[.val (.ref a1), .val (.int (own_acc W 3)), .val (.int (3 : Int32))]) rfl k) ?_
  show own_G p e below _ T3 (mkF m 28 #[.val (.ref a1), .val (.int (own_acc W 3)), .val (.int (3 : Int32))] [])
  refine own_go (fun t k => XS.goto X3.here hx rfl (pc0 := 28) (pc' := 4) rfl (hb hby d5_28) (by decide) (by decide) k) ?_
  show own_G p e below _ T3 (mkF m 4 #[.val (.ref a1), .val (.int (own_acc W 3)), .val (.int (3 : Int32))] [])
  refine own_go (fun t k => XS.iloadN X3.here hx rfl (hb hby d5_4) rfl k) ?_
  show own_G p e below _ T3 (mkF m 5 #[.val (.ref a1), .val (.int (own_acc W 3)), .val (.int (3 : Int32))] [(.int (3 : Int32))])
  refine own_go (fun t k => XS.bipush X3.here hx rfl (hb hby d5_5) k) ?_
  show own_G p e below _ T3 (mkF m 7 #[.val (.ref a1), .val (.int (own_acc W 3)), .val (.int (3 : Int32))] [(.int (44 : Int32)), (.int (3 : Int32))])
  refine own_go (fun t k => XS.icmpNo X3.here hx rfl (hb hby d5_7) rfl (by decide) k) ?_
  show own_G p e below _ T3 (mkF m 10 #[.val (.ref a1), .val (.int (own_acc W 3)), .val (.int (3 : Int32))] [])
  refine own_go (fun t k => XS.iloadN X3.here hx rfl (hb hby d5_10) rfl k) ?_
  show own_G p e below _ T3 (mkF m 11 #[.val (.ref a1), .val (.int (own_acc W 3)), .val (.int (3 : Int32))] [(.int (own_acc W 3))])
  refine own_go (fun t k => XS.aloadN X3.here hx rfl (hb hby d5_11) rfl rfl k) ?_
  show own_G p e below _ T3 (mkF m 12 #[.val (.ref a1), .val (.int (own_acc W 3)), .val (.int (3 : Int32))] [(.ref a1), (.int (own_acc W 3))])
  refine own_go (fun t k => XS.iloadN X3.here hx rfl (hb hby d5_12) rfl k) ?_
  show own_G p e below _ T3 (mkF m 13 #[.val (.ref a1), .val (.int (own_acc W 3)), .val (.int (3 : Int32))] [(.int (3 : Int32)), (.ref a1), (.int (own_acc W 3))])
  refine own_go (X3.caload hx (j := (3 : Int32)) (v := .int (W 3)) (own_cellAt e3 Ar) (State.isArrayOf_alike hZ.alike Ar.2.1) Ar.2.2 (own_in hsz (by decide)) (hat 3 (by decide)) (g := (mkF m 13 #[.val (.ref a1), .val (.int (own_acc W 3)), .val (.int (3 : Int32))] [(.int (3 : Int32)), (.ref a1), (.int (own_acc W 3))])) rfl rfl (hb hby d5_13)) ?_
  show own_G p e below _ T3 (mkF m 14 #[.val (.ref a1), .val (.int (own_acc W 3)), .val (.int (3 : Int32))] [(.int (W 3)), (.int (own_acc W 3))])
  refine own_go (fun t k => XS.bipush X3.here hx rfl (hb hby d5_14) k) ?_
  show own_G p e below _ T3 (mkF m 16 #[.val (.ref a1), .val (.int (own_acc W 3)), .val (.int (3 : Int32))] [(.int (48 : Int32)), (.int (W 3)), (.int (own_acc W 3))])
  refine own_go (fun t k => XS.isub X3.here hx rfl (hb hby d5_16) rfl k) ?_
  show own_G p e below _ T3 (mkF m 17 #[.val (.ref a1), .val (.int (own_acc W 3)), .val (.int (3 : Int32))] [(.int ((W 3) - (48 : Int32))), (.int (own_acc W 3))])
  obtain ⟨T4, X4, e4, st4⟩ := getS X3 hx hZ hown (host := "") (hw _ (List.mem_of_getElem? (i := 20) rfl)) Via.refl e3 S_GENERAL_DIGIT_WEIGHTS (g := (mkF m 17 #[.val (.ref a1), .val (.int (own_acc W 3)), .val (.int (3 : Int32))] [(.int ((W 3) - (48 : Int32))), (.int (own_acc W 3))])) rfl (hb hby d5_17)
  refine own_go st4 ?_
  show own_G p e below _ T4 (mkF m 20 #[.val (.ref a1), .val (.int (own_acc W 3)), .val (.int (3 : Int32))] [(.ref a_GENERAL_DIGIT_WEIGHTS), (.int ((W 3) - (48 : Int32))), (.int (own_acc W 3))])
  refine own_go (fun t k => XS.iloadN X4.here hx rfl (hb hby d5_20) rfl k) ?_
  show own_G p e below _ T4 (mkF m 21 #[.val (.ref a1), .val (.int (own_acc W 3)), .val (.int (3 : Int32))] [(.int (3 : Int32)), (.ref a_GENERAL_DIGIT_WEIGHTS), (.int ((W 3) - (48 : Int32))), (.int (own_acc W 3))])
  refine own_go (X4.iaload hx (j := (3 : Int32)) (v := (.int (9 : Int32))) (own_cellAt e4 A_GENERAL_DIGIT_WEIGHTS) (State.isArrayOf_alike hZ.alike A_GENERAL_DIGIT_WEIGHTS.2.1) A_GENERAL_DIGIT_WEIGHTS.2.2 (own_in Z_GENERAL_DIGIT_WEIGHTS (by decide)) V_GENERAL_DIGIT_WEIGHTS_3 (g := (mkF m 21 #[.val (.ref a1), .val (.int (own_acc W 3)), .val (.int (3 : Int32))] [(.int (3 : Int32)), (.ref a_GENERAL_DIGIT_WEIGHTS), (.int ((W 3) - (48 : Int32))), (.int (own_acc W 3))])) rfl rfl (hb hby d5_21)) ?_
  show own_G p e below _ T4 (mkF m 22 #[.val (.ref a1), .val (.int (own_acc W 3)), .val (.int (3 : Int32))] [(.int (9 : Int32)), (.int ((W 3) - (48 : Int32))), (.int (own_acc W 3))])
  refine own_go (fun t k => XS.imul X4.here hx rfl (hb hby d5_22) rfl k) ?_
  show own_G p e below _ T4 (mkF m 23 #[.val (.ref a1), .val (.int (own_acc W 3)), .val (.int (3 : Int32))] [(.int (((W 3) - (48 : Int32)) * (9 : Int32))), (.int (own_acc W 3))])
  refine own_go (fun t k => XS.iadd X4.here hx rfl (hb hby d5_23) rfl k) ?_
  show own_G p e below _ T4 (mkF m 24 #[.val (.ref a1), .val (.int (own_acc W 3)), .val (.int (3 : Int32))] [(.int (own_acc W 4))])
  refine own_go (fun t k => XS.istoreN X4.here hx rfl (hb hby d5_24) rfl (l' := #[.val (.ref a1), .val (.int (own_acc W 4)), .val (.int (3 : Int32))]) rfl k) ?_
  show own_G p e below _ T4 (mkF m 25 #[.val (.ref a1), .val (.int (own_acc W 4)), .val (.int (3 : Int32))] [])
  refine own_go (fun t k => XS.iinc X4.here hx rfl (hb hby d5_25) rfl (l' := #[.val (.ref a1), .val (.int (own_acc W 4)), .val (.int (4 : Int32))]) rfl k) ?_
  show own_G p e below _ T4 (mkF m 28 #[.val (.ref a1), .val (.int (own_acc W 4)), .val (.int (4 : Int32))] [])
  refine own_go (fun t k => XS.goto X4.here hx rfl (pc0 := 28) (pc' := 4) rfl (hb hby d5_28) (by decide) (by decide) k) ?_
  show own_G p e below _ T4 (mkF m 4 #[.val (.ref a1), .val (.int (own_acc W 4)), .val (.int (4 : Int32))] [])
  refine own_go (fun t k => XS.iloadN X4.here hx rfl (hb hby d5_4) rfl k) ?_
  show own_G p e below _ T4 (mkF m 5 #[.val (.ref a1), .val (.int (own_acc W 4)), .val (.int (4 : Int32))] [(.int (4 : Int32))])
  refine own_go (fun t k => XS.bipush X4.here hx rfl (hb hby d5_5) k) ?_
  show own_G p e below _ T4 (mkF m 7 #[.val (.ref a1), .val (.int (own_acc W 4)), .val (.int (4 : Int32))] [(.int (44 : Int32)), (.int (4 : Int32))])
  refine own_go (fun t k => XS.icmpNo X4.here hx rfl (hb hby d5_7) rfl (by decide) k) ?_
  show own_G p e below _ T4 (mkF m 10 #[.val (.ref a1), .val (.int (own_acc W 4)), .val (.int (4 : Int32))] [])
  refine own_go (fun t k => XS.iloadN X4.here hx rfl (hb hby d5_10) rfl k) ?_
  show own_G p e below _ T4 (mkF m 11 #[.val (.ref a1), .val (.int (own_acc W 4)), .val (.int (4 : Int32))] [(.int (own_acc W 4))])
  refine own_go (fun t k => XS.aloadN X4.here hx rfl (hb hby d5_11) rfl rfl k) ?_
  show own_G p e below _ T4 (mkF m 12 #[.val (.ref a1), .val (.int (own_acc W 4)), .val (.int (4 : Int32))] [(.ref a1), (.int (own_acc W 4))])
  refine own_go (fun t k => XS.iloadN X4.here hx rfl (hb hby d5_12) rfl k) ?_
  show own_G p e below _ T4 (mkF m 13 #[.val (.ref a1), .val (.int (own_acc W 4)), .val (.int (4 : Int32))] [(.int (4 : Int32)), (.ref a1), (.int (own_acc W 4))])
  refine own_go (X4.caload hx (j := (4 : Int32)) (v := .int (W 4)) (own_cellAt e4 Ar) (State.isArrayOf_alike hZ.alike Ar.2.1) Ar.2.2 (own_in hsz (by decide)) (hat 4 (by decide)) (g := (mkF m 13 #[.val (.ref a1), .val (.int (own_acc W 4)), .val (.int (4 : Int32))] [(.int (4 : Int32)), (.ref a1), (.int (own_acc W 4))])) rfl rfl (hb hby d5_13)) ?_
  show own_G p e below _ T4 (mkF m 14 #[.val (.ref a1), .val (.int (own_acc W 4)), .val (.int (4 : Int32))] [(.int (W 4)), (.int (own_acc W 4))])
  refine own_go (fun t k => XS.bipush X4.here hx rfl (hb hby d5_14) k) ?_
  show own_G p e below _ T4 (mkF m 16 #[.val (.ref a1), .val (.int (own_acc W 4)), .val (.int (4 : Int32))] [(.int (48 : Int32)), (.int (W 4)), (.int (own_acc W 4))])
  refine own_go (fun t k => XS.isub X4.here hx rfl (hb hby d5_16) rfl k) ?_
  show own_G p e below _ T4 (mkF m 17 #[.val (.ref a1), .val (.int (own_acc W 4)), .val (.int (4 : Int32))] [(.int ((W 4) - (48 : Int32))), (.int (own_acc W 4))])
  obtain ⟨T5, X5, e5, st5⟩ := getS X4 hx hZ hown (host := "") (hw _ (List.mem_of_getElem? (i := 20) rfl)) Via.refl e4 S_GENERAL_DIGIT_WEIGHTS (g := (mkF m 17 #[.val (.ref a1), .val (.int (own_acc W 4)), .val (.int (4 : Int32))] [(.int ((W 4) - (48 : Int32))), (.int (own_acc W 4))])) rfl (hb hby d5_17)
  refine own_go st5 ?_
  show own_G p e below _ T5 (mkF m 20 #[.val (.ref a1), .val (.int (own_acc W 4)), .val (.int (4 : Int32))] [(.ref a_GENERAL_DIGIT_WEIGHTS), (.int ((W 4) - (48 : Int32))), (.int (own_acc W 4))])
  refine own_go (fun t k => XS.iloadN X5.here hx rfl (hb hby d5_20) rfl k) ?_
  show own_G p e below _ T5 (mkF m 21 #[.val (.ref a1), .val (.int (own_acc W 4)), .val (.int (4 : Int32))] [(.int (4 : Int32)), (.ref a_GENERAL_DIGIT_WEIGHTS), (.int ((W 4) - (48 : Int32))), (.int (own_acc W 4))])
  refine own_go (X5.iaload hx (j := (4 : Int32)) (v := (.int (0 : Int32))) (own_cellAt e5 A_GENERAL_DIGIT_WEIGHTS) (State.isArrayOf_alike hZ.alike A_GENERAL_DIGIT_WEIGHTS.2.1) A_GENERAL_DIGIT_WEIGHTS.2.2 (own_in Z_GENERAL_DIGIT_WEIGHTS (by decide)) V_GENERAL_DIGIT_WEIGHTS_4 (g := (mkF m 21 #[.val (.ref a1), .val (.int (own_acc W 4)), .val (.int (4 : Int32))] [(.int (4 : Int32)), (.ref a_GENERAL_DIGIT_WEIGHTS), (.int ((W 4) - (48 : Int32))), (.int (own_acc W 4))])) rfl rfl (hb hby d5_21)) ?_
  show own_G p e below _ T5 (mkF m 22 #[.val (.ref a1), .val (.int (own_acc W 4)), .val (.int (4 : Int32))] [(.int (0 : Int32)), (.int ((W 4) - (48 : Int32))), (.int (own_acc W 4))])
  refine own_go (fun t k => XS.imul X5.here hx rfl (hb hby d5_22) rfl k) ?_
  show own_G p e below _ T5 (mkF m 23 #[.val (.ref a1), .val (.int (own_acc W 4)), .val (.int (4 : Int32))] [(.int (((W 4) - (48 : Int32)) * (0 : Int32))), (.int (own_acc W 4))])
  refine own_go (fun t k => XS.iadd X5.here hx rfl (hb hby d5_23) rfl k) ?_
  show own_G p e below _ T5 (mkF m 24 #[.val (.ref a1), .val (.int (own_acc W 4)), .val (.int (4 : Int32))] [(.int (own_acc W 5))])
  refine own_go (fun t k => XS.istoreN X5.here hx rfl (hb hby d5_24) rfl (l' := #[.val (.ref a1), .val (.int (own_acc W 5)), .val (.int (4 : Int32))]) rfl k) ?_
  show own_G p e below _ T5 (mkF m 25 #[.val (.ref a1), .val (.int (own_acc W 5)), .val (.int (4 : Int32))] [])
  refine own_go (fun t k => XS.iinc X5.here hx rfl (hb hby d5_25) rfl (l' := #[.val (.ref a1), .val (.int (own_acc W 5)), .val (.int (5 : Int32))]) rfl k) ?_
  show own_G p e below _ T5 (mkF m 28 #[.val (.ref a1), .val (.int (own_acc W 5)), .val (.int (5 : Int32))] [])
  refine own_go (fun t k => XS.goto X5.here hx rfl (pc0 := 28) (pc' := 4) rfl (hb hby d5_28) (by decide) (by decide) k) ?_
  show own_G p e below _ T5 (mkF m 4 #[.val (.ref a1), .val (.int (own_acc W 5)), .val (.int (5 : Int32))] [])
  refine own_go (fun t k => XS.iloadN X5.here hx rfl (hb hby d5_4) rfl k) ?_
  show own_G p e below _ T5 (mkF m 5 #[.val (.ref a1), .val (.int (own_acc W 5)), .val (.int (5 : Int32))] [(.int (5 : Int32))])
  refine own_go (fun t k => XS.bipush X5.here hx rfl (hb hby d5_5) k) ?_
  show own_G p e below _ T5 (mkF m 7 #[.val (.ref a1), .val (.int (own_acc W 5)), .val (.int (5 : Int32))] [(.int (44 : Int32)), (.int (5 : Int32))])
  refine own_go (fun t k => XS.icmpNo X5.here hx rfl (hb hby d5_7) rfl (by decide) k) ?_
  show own_G p e below _ T5 (mkF m 10 #[.val (.ref a1), .val (.int (own_acc W 5)), .val (.int (5 : Int32))] [])
  refine own_go (fun t k => XS.iloadN X5.here hx rfl (hb hby d5_10) rfl k) ?_
  show own_G p e below _ T5 (mkF m 11 #[.val (.ref a1), .val (.int (own_acc W 5)), .val (.int (5 : Int32))] [(.int (own_acc W 5))])
  refine own_go (fun t k => XS.aloadN X5.here hx rfl (hb hby d5_11) rfl rfl k) ?_
  show own_G p e below _ T5 (mkF m 12 #[.val (.ref a1), .val (.int (own_acc W 5)), .val (.int (5 : Int32))] [(.ref a1), (.int (own_acc W 5))])
  refine own_go (fun t k => XS.iloadN X5.here hx rfl (hb hby d5_12) rfl k) ?_
  show own_G p e below _ T5 (mkF m 13 #[.val (.ref a1), .val (.int (own_acc W 5)), .val (.int (5 : Int32))] [(.int (5 : Int32)), (.ref a1), (.int (own_acc W 5))])
  refine own_go (X5.caload hx (j := (5 : Int32)) (v := .int (W 5)) (own_cellAt e5 Ar) (State.isArrayOf_alike hZ.alike Ar.2.1) Ar.2.2 (own_in hsz (by decide)) (hat 5 (by decide)) (g := (mkF m 13 #[.val (.ref a1), .val (.int (own_acc W 5)), .val (.int (5 : Int32))] [(.int (5 : Int32)), (.ref a1), (.int (own_acc W 5))])) rfl rfl (hb hby d5_13)) ?_
  show own_G p e below _ T5 (mkF m 14 #[.val (.ref a1), .val (.int (own_acc W 5)), .val (.int (5 : Int32))] [(.int (W 5)), (.int (own_acc W 5))])
  refine own_go (fun t k => XS.bipush X5.here hx rfl (hb hby d5_14) k) ?_
  show own_G p e below _ T5 (mkF m 16 #[.val (.ref a1), .val (.int (own_acc W 5)), .val (.int (5 : Int32))] [(.int (48 : Int32)), (.int (W 5)), (.int (own_acc W 5))])
  refine own_go (fun t k => XS.isub X5.here hx rfl (hb hby d5_16) rfl k) ?_
  show own_G p e below _ T5 (mkF m 17 #[.val (.ref a1), .val (.int (own_acc W 5)), .val (.int (5 : Int32))] [(.int ((W 5) - (48 : Int32))), (.int (own_acc W 5))])
  obtain ⟨T6, X6, e6, st6⟩ := getS X5 hx hZ hown (host := "") (hw _ (List.mem_of_getElem? (i := 20) rfl)) Via.refl e5 S_GENERAL_DIGIT_WEIGHTS (g := (mkF m 17 #[.val (.ref a1), .val (.int (own_acc W 5)), .val (.int (5 : Int32))] [(.int ((W 5) - (48 : Int32))), (.int (own_acc W 5))])) rfl (hb hby d5_17)
  refine own_go st6 ?_
  show own_G p e below _ T6 (mkF m 20 #[.val (.ref a1), .val (.int (own_acc W 5)), .val (.int (5 : Int32))] [(.ref a_GENERAL_DIGIT_WEIGHTS), (.int ((W 5) - (48 : Int32))), (.int (own_acc W 5))])
  refine own_go (fun t k => XS.iloadN X6.here hx rfl (hb hby d5_20) rfl k) ?_
  show own_G p e below _ T6 (mkF m 21 #[.val (.ref a1), .val (.int (own_acc W 5)), .val (.int (5 : Int32))] [(.int (5 : Int32)), (.ref a_GENERAL_DIGIT_WEIGHTS), (.int ((W 5) - (48 : Int32))), (.int (own_acc W 5))])
  refine own_go (X6.iaload hx (j := (5 : Int32)) (v := (.int (8 : Int32))) (own_cellAt e6 A_GENERAL_DIGIT_WEIGHTS) (State.isArrayOf_alike hZ.alike A_GENERAL_DIGIT_WEIGHTS.2.1) A_GENERAL_DIGIT_WEIGHTS.2.2 (own_in Z_GENERAL_DIGIT_WEIGHTS (by decide)) V_GENERAL_DIGIT_WEIGHTS_5 (g := (mkF m 21 #[.val (.ref a1), .val (.int (own_acc W 5)), .val (.int (5 : Int32))] [(.int (5 : Int32)), (.ref a_GENERAL_DIGIT_WEIGHTS), (.int ((W 5) - (48 : Int32))), (.int (own_acc W 5))])) rfl rfl (hb hby d5_21)) ?_
  show own_G p e below _ T6 (mkF m 22 #[.val (.ref a1), .val (.int (own_acc W 5)), .val (.int (5 : Int32))] [(.int (8 : Int32)), (.int ((W 5) - (48 : Int32))), (.int (own_acc W 5))])
  refine own_go (fun t k => XS.imul X6.here hx rfl (hb hby d5_22) rfl k) ?_
  show own_G p e below _ T6 (mkF m 23 #[.val (.ref a1), .val (.int (own_acc W 5)), .val (.int (5 : Int32))] [(.int (((W 5) - (48 : Int32)) * (8 : Int32))), (.int (own_acc W 5))])
  refine own_go (fun t k => XS.iadd X6.here hx rfl (hb hby d5_23) rfl k) ?_
  show own_G p e below _ T6 (mkF m 24 #[.val (.ref a1), .val (.int (own_acc W 5)), .val (.int (5 : Int32))] [(.int (own_acc W 6))])
  refine own_go (fun t k => XS.istoreN X6.here hx rfl (hb hby d5_24) rfl (l' := #[.val (.ref a1), .val (.int (own_acc W 6)), .val (.int (5 : Int32))]) rfl k) ?_
  show own_G p e below _ T6 (mkF m 25 #[.val (.ref a1), .val (.int (own_acc W 6)), .val (.int (5 : Int32))] [])
  refine own_go (fun t k => XS.iinc X6.here hx rfl (hb hby d5_25) rfl (l' := #[.val (.ref a1), .val (.int (own_acc W 6)), .val (.int (6 : Int32))]) rfl k) ?_
  show own_G p e below _ T6 (mkF m 28 #[.val (.ref a1), .val (.int (own_acc W 6)), .val (.int (6 : Int32))] [])
  refine own_go (fun t k => XS.goto X6.here hx rfl (pc0 := 28) (pc' := 4) rfl (hb hby d5_28) (by decide) (by decide) k) ?_
  show own_G p e below _ T6 (mkF m 4 #[.val (.ref a1), .val (.int (own_acc W 6)), .val (.int (6 : Int32))] [])
  refine own_go (fun t k => XS.iloadN X6.here hx rfl (hb hby d5_4) rfl k) ?_
  show own_G p e below _ T6 (mkF m 5 #[.val (.ref a1), .val (.int (own_acc W 6)), .val (.int (6 : Int32))] [(.int (6 : Int32))])
  refine own_go (fun t k => XS.bipush X6.here hx rfl (hb hby d5_5) k) ?_
  show own_G p e below _ T6 (mkF m 7 #[.val (.ref a1), .val (.int (own_acc W 6)), .val (.int (6 : Int32))] [(.int (44 : Int32)), (.int (6 : Int32))])
  refine own_go (fun t k => XS.icmpNo X6.here hx rfl (hb hby d5_7) rfl (by decide) k) ?_
  show own_G p e below _ T6 (mkF m 10 #[.val (.ref a1), .val (.int (own_acc W 6)), .val (.int (6 : Int32))] [])
  refine own_go (fun t k => XS.iloadN X6.here hx rfl (hb hby d5_10) rfl k) ?_
  show own_G p e below _ T6 (mkF m 11 #[.val (.ref a1), .val (.int (own_acc W 6)), .val (.int (6 : Int32))] [(.int (own_acc W 6))])
  refine own_go (fun t k => XS.aloadN X6.here hx rfl (hb hby d5_11) rfl rfl k) ?_
  show own_G p e below _ T6 (mkF m 12 #[.val (.ref a1), .val (.int (own_acc W 6)), .val (.int (6 : Int32))] [(.ref a1), (.int (own_acc W 6))])
  refine own_go (fun t k => XS.iloadN X6.here hx rfl (hb hby d5_12) rfl k) ?_
  show own_G p e below _ T6 (mkF m 13 #[.val (.ref a1), .val (.int (own_acc W 6)), .val (.int (6 : Int32))] [(.int (6 : Int32)), (.ref a1), (.int (own_acc W 6))])
  refine own_go (X6.caload hx (j := (6 : Int32)) (v := .int (W 6)) (own_cellAt e6 Ar) (State.isArrayOf_alike hZ.alike Ar.2.1) Ar.2.2 (own_in hsz (by decide)) (hat 6 (by decide)) (g := (mkF m 13 #[.val (.ref a1), .val (.int (own_acc W 6)), .val (.int (6 : Int32))] [(.int (6 : Int32)), (.ref a1), (.int (own_acc W 6))])) rfl rfl (hb hby d5_13)) ?_
  show own_G p e below _ T6 (mkF m 14 #[.val (.ref a1), .val (.int (own_acc W 6)), .val (.int (6 : Int32))] [(.int (W 6)), (.int (own_acc W 6))])
  refine own_go (fun t k => XS.bipush X6.here hx rfl (hb hby d5_14) k) ?_
  show own_G p e below _ T6 (mkF m 16 #[.val (.ref a1), .val (.int (own_acc W 6)), .val (.int (6 : Int32))] [(.int (48 : Int32)), (.int (W 6)), (.int (own_acc W 6))])
  refine own_go (fun t k => XS.isub X6.here hx rfl (hb hby d5_16) rfl k) ?_
  show own_G p e below _ T6 (mkF m 17 #[.val (.ref a1), .val (.int (own_acc W 6)), .val (.int (6 : Int32))] [(.int ((W 6) - (48 : Int32))), (.int (own_acc W 6))])
  obtain ⟨T7, X7, e7, st7⟩ := getS X6 hx hZ hown (host := "") (hw _ (List.mem_of_getElem? (i := 20) rfl)) Via.refl e6 S_GENERAL_DIGIT_WEIGHTS (g := (mkF m 17 #[.val (.ref a1), .val (.int (own_acc W 6)), .val (.int (6 : Int32))] [(.int ((W 6) - (48 : Int32))), (.int (own_acc W 6))])) rfl (hb hby d5_17)
  refine own_go st7 ?_
  show own_G p e below _ T7 (mkF m 20 #[.val (.ref a1), .val (.int (own_acc W 6)), .val (.int (6 : Int32))] [(.ref a_GENERAL_DIGIT_WEIGHTS), (.int ((W 6) - (48 : Int32))), (.int (own_acc W 6))])
  refine own_go (fun t k => XS.iloadN X7.here hx rfl (hb hby d5_20) rfl k) ?_
  show own_G p e below _ T7 (mkF m 21 #[.val (.ref a1), .val (.int (own_acc W 6)), .val (.int (6 : Int32))] [(.int (6 : Int32)), (.ref a_GENERAL_DIGIT_WEIGHTS), (.int ((W 6) - (48 : Int32))), (.int (own_acc W 6))])
  refine own_go (X7.iaload hx (j := (6 : Int32)) (v := (.int (7 : Int32))) (own_cellAt e7 A_GENERAL_DIGIT_WEIGHTS) (State.isArrayOf_alike hZ.alike A_GENERAL_DIGIT_WEIGHTS.2.1) A_GENERAL_DIGIT_WEIGHTS.2.2 (own_in Z_GENERAL_DIGIT_WEIGHTS (by decide)) V_GENERAL_DIGIT_WEIGHTS_6 (g := (mkF m 21 #[.val (.ref a1), .val (.int (own_acc W 6)), .val (.int (6 : Int32))] [(.int (6 : Int32)), (.ref a_GENERAL_DIGIT_WEIGHTS), (.int ((W 6) - (48 : Int32))), (.int (own_acc W 6))])) rfl rfl (hb hby d5_21)) ?_
  show own_G p e below _ T7 (mkF m 22 #[.val (.ref a1), .val (.int (own_acc W 6)), .val (.int (6 : Int32))] [(.int (7 : Int32)), (.int ((W 6) - (48 : Int32))), (.int (own_acc W 6))])
  refine own_go (fun t k => XS.imul X7.here hx rfl (hb hby d5_22) rfl k) ?_
  show own_G p e below _ T7 (mkF m 23 #[.val (.ref a1), .val (.int (own_acc W 6)), .val (.int (6 : Int32))] [(.int (((W 6) - (48 : Int32)) * (7 : Int32))), (.int (own_acc W 6))])
  refine own_go (fun t k => XS.iadd X7.here hx rfl (hb hby d5_23) rfl k) ?_
  show own_G p e below _ T7 (mkF m 24 #[.val (.ref a1), .val (.int (own_acc W 6)), .val (.int (6 : Int32))] [(.int (own_acc W 7))])
  refine own_go (fun t k => XS.istoreN X7.here hx rfl (hb hby d5_24) rfl (l' := #[.val (.ref a1), .val (.int (own_acc W 7)), .val (.int (6 : Int32))]) rfl k) ?_
  show own_G p e below _ T7 (mkF m 25 #[.val (.ref a1), .val (.int (own_acc W 7)), .val (.int (6 : Int32))] [])
  refine own_go (fun t k => XS.iinc X7.here hx rfl (hb hby d5_25) rfl (l' := #[.val (.ref a1), .val (.int (own_acc W 7)), .val (.int (7 : Int32))]) rfl k) ?_
  show own_G p e below _ T7 (mkF m 28 #[.val (.ref a1), .val (.int (own_acc W 7)), .val (.int (7 : Int32))] [])
  refine own_go (fun t k => XS.goto X7.here hx rfl (pc0 := 28) (pc' := 4) rfl (hb hby d5_28) (by decide) (by decide) k) ?_
  show own_G p e below _ T7 (mkF m 4 #[.val (.ref a1), .val (.int (own_acc W 7)), .val (.int (7 : Int32))] [])
  refine own_go (fun t k => XS.iloadN X7.here hx rfl (hb hby d5_4) rfl k) ?_
  show own_G p e below _ T7 (mkF m 5 #[.val (.ref a1), .val (.int (own_acc W 7)), .val (.int (7 : Int32))] [(.int (7 : Int32))])
  refine own_go (fun t k => XS.bipush X7.here hx rfl (hb hby d5_5) k) ?_
  show own_G p e below _ T7 (mkF m 7 #[.val (.ref a1), .val (.int (own_acc W 7)), .val (.int (7 : Int32))] [(.int (44 : Int32)), (.int (7 : Int32))])
  refine own_go (fun t k => XS.icmpNo X7.here hx rfl (hb hby d5_7) rfl (by decide) k) ?_
  show own_G p e below _ T7 (mkF m 10 #[.val (.ref a1), .val (.int (own_acc W 7)), .val (.int (7 : Int32))] [])
  refine own_go (fun t k => XS.iloadN X7.here hx rfl (hb hby d5_10) rfl k) ?_
  show own_G p e below _ T7 (mkF m 11 #[.val (.ref a1), .val (.int (own_acc W 7)), .val (.int (7 : Int32))] [(.int (own_acc W 7))])
  refine own_go (fun t k => XS.aloadN X7.here hx rfl (hb hby d5_11) rfl rfl k) ?_
  show own_G p e below _ T7 (mkF m 12 #[.val (.ref a1), .val (.int (own_acc W 7)), .val (.int (7 : Int32))] [(.ref a1), (.int (own_acc W 7))])
  refine own_go (fun t k => XS.iloadN X7.here hx rfl (hb hby d5_12) rfl k) ?_
  show own_G p e below _ T7 (mkF m 13 #[.val (.ref a1), .val (.int (own_acc W 7)), .val (.int (7 : Int32))] [(.int (7 : Int32)), (.ref a1), (.int (own_acc W 7))])
  refine own_go (X7.caload hx (j := (7 : Int32)) (v := .int (W 7)) (own_cellAt e7 Ar) (State.isArrayOf_alike hZ.alike Ar.2.1) Ar.2.2 (own_in hsz (by decide)) (hat 7 (by decide)) (g := (mkF m 13 #[.val (.ref a1), .val (.int (own_acc W 7)), .val (.int (7 : Int32))] [(.int (7 : Int32)), (.ref a1), (.int (own_acc W 7))])) rfl rfl (hb hby d5_13)) ?_
  show own_G p e below _ T7 (mkF m 14 #[.val (.ref a1), .val (.int (own_acc W 7)), .val (.int (7 : Int32))] [(.int (W 7)), (.int (own_acc W 7))])
  refine own_go (fun t k => XS.bipush X7.here hx rfl (hb hby d5_14) k) ?_
  show own_G p e below _ T7 (mkF m 16 #[.val (.ref a1), .val (.int (own_acc W 7)), .val (.int (7 : Int32))] [(.int (48 : Int32)), (.int (W 7)), (.int (own_acc W 7))])
  refine own_go (fun t k => XS.isub X7.here hx rfl (hb hby d5_16) rfl k) ?_
  show own_G p e below _ T7 (mkF m 17 #[.val (.ref a1), .val (.int (own_acc W 7)), .val (.int (7 : Int32))] [(.int ((W 7) - (48 : Int32))), (.int (own_acc W 7))])
  obtain ⟨T8, X8, e8, st8⟩ := getS X7 hx hZ hown (host := "") (hw _ (List.mem_of_getElem? (i := 20) rfl)) Via.refl e7 S_GENERAL_DIGIT_WEIGHTS (g := (mkF m 17 #[.val (.ref a1), .val (.int (own_acc W 7)), .val (.int (7 : Int32))] [(.int ((W 7) - (48 : Int32))), (.int (own_acc W 7))])) rfl (hb hby d5_17)
  refine own_go st8 ?_
  show own_G p e below _ T8 (mkF m 20 #[.val (.ref a1), .val (.int (own_acc W 7)), .val (.int (7 : Int32))] [(.ref a_GENERAL_DIGIT_WEIGHTS), (.int ((W 7) - (48 : Int32))), (.int (own_acc W 7))])
  refine own_go (fun t k => XS.iloadN X8.here hx rfl (hb hby d5_20) rfl k) ?_
  show own_G p e below _ T8 (mkF m 21 #[.val (.ref a1), .val (.int (own_acc W 7)), .val (.int (7 : Int32))] [(.int (7 : Int32)), (.ref a_GENERAL_DIGIT_WEIGHTS), (.int ((W 7) - (48 : Int32))), (.int (own_acc W 7))])
  refine own_go (X8.iaload hx (j := (7 : Int32)) (v := (.int (6 : Int32))) (own_cellAt e8 A_GENERAL_DIGIT_WEIGHTS) (State.isArrayOf_alike hZ.alike A_GENERAL_DIGIT_WEIGHTS.2.1) A_GENERAL_DIGIT_WEIGHTS.2.2 (own_in Z_GENERAL_DIGIT_WEIGHTS (by decide)) V_GENERAL_DIGIT_WEIGHTS_7 (g := (mkF m 21 #[.val (.ref a1), .val (.int (own_acc W 7)), .val (.int (7 : Int32))] [(.int (7 : Int32)), (.ref a_GENERAL_DIGIT_WEIGHTS), (.int ((W 7) - (48 : Int32))), (.int (own_acc W 7))])) rfl rfl (hb hby d5_21)) ?_
  show own_G p e below _ T8 (mkF m 22 #[.val (.ref a1), .val (.int (own_acc W 7)), .val (.int (7 : Int32))] [(.int (6 : Int32)), (.int ((W 7) - (48 : Int32))), (.int (own_acc W 7))])
  refine own_go (fun t k => XS.imul X8.here hx rfl (hb hby d5_22) rfl k) ?_
  show own_G p e below _ T8 (mkF m 23 #[.val (.ref a1), .val (.int (own_acc W 7)), .val (.int (7 : Int32))] [(.int (((W 7) - (48 : Int32)) * (6 : Int32))), (.int (own_acc W 7))])
  refine own_go (fun t k => XS.iadd X8.here hx rfl (hb hby d5_23) rfl k) ?_
  show own_G p e below _ T8 (mkF m 24 #[.val (.ref a1), .val (.int (own_acc W 7)), .val (.int (7 : Int32))] [(.int (own_acc W 8))])
  refine own_go (fun t k => XS.istoreN X8.here hx rfl (hb hby d5_24) rfl (l' := #[.val (.ref a1), .val (.int (own_acc W 8)), .val (.int (7 : Int32))]) rfl k) ?_
  show own_G p e below _ T8 (mkF m 25 #[.val (.ref a1), .val (.int (own_acc W 8)), .val (.int (7 : Int32))] [])
  refine own_go (fun t k => XS.iinc X8.here hx rfl (hb hby d5_25) rfl (l' := #[.val (.ref a1), .val (.int (own_acc W 8)), .val (.int (8 : Int32))]) rfl k) ?_
  show own_G p e below _ T8 (mkF m 28 #[.val (.ref a1), .val (.int (own_acc W 8)), .val (.int (8 : Int32))] [])
  refine own_go (fun t k => XS.goto X8.here hx rfl (pc0 := 28) (pc' := 4) rfl (hb hby d5_28) (by decide) (by decide) k) ?_
  show own_G p e below _ T8 (mkF m 4 #[.val (.ref a1), .val (.int (own_acc W 8)), .val (.int (8 : Int32))] [])
  refine own_go (fun t k => XS.iloadN X8.here hx rfl (hb hby d5_4) rfl k) ?_
  show own_G p e below _ T8 (mkF m 5 #[.val (.ref a1), .val (.int (own_acc W 8)), .val (.int (8 : Int32))] [(.int (8 : Int32))])
  refine own_go (fun t k => XS.bipush X8.here hx rfl (hb hby d5_5) k) ?_
  show own_G p e below _ T8 (mkF m 7 #[.val (.ref a1), .val (.int (own_acc W 8)), .val (.int (8 : Int32))] [(.int (44 : Int32)), (.int (8 : Int32))])
  refine own_go (fun t k => XS.icmpNo X8.here hx rfl (hb hby d5_7) rfl (by decide) k) ?_
  show own_G p e below _ T8 (mkF m 10 #[.val (.ref a1), .val (.int (own_acc W 8)), .val (.int (8 : Int32))] [])
  refine own_go (fun t k => XS.iloadN X8.here hx rfl (hb hby d5_10) rfl k) ?_
  show own_G p e below _ T8 (mkF m 11 #[.val (.ref a1), .val (.int (own_acc W 8)), .val (.int (8 : Int32))] [(.int (own_acc W 8))])
  refine own_go (fun t k => XS.aloadN X8.here hx rfl (hb hby d5_11) rfl rfl k) ?_
  show own_G p e below _ T8 (mkF m 12 #[.val (.ref a1), .val (.int (own_acc W 8)), .val (.int (8 : Int32))] [(.ref a1), (.int (own_acc W 8))])
  refine own_go (fun t k => XS.iloadN X8.here hx rfl (hb hby d5_12) rfl k) ?_
  show own_G p e below _ T8 (mkF m 13 #[.val (.ref a1), .val (.int (own_acc W 8)), .val (.int (8 : Int32))] [(.int (8 : Int32)), (.ref a1), (.int (own_acc W 8))])
  refine own_go (X8.caload hx (j := (8 : Int32)) (v := .int (W 8)) (own_cellAt e8 Ar) (State.isArrayOf_alike hZ.alike Ar.2.1) Ar.2.2 (own_in hsz (by decide)) (hat 8 (by decide)) (g := (mkF m 13 #[.val (.ref a1), .val (.int (own_acc W 8)), .val (.int (8 : Int32))] [(.int (8 : Int32)), (.ref a1), (.int (own_acc W 8))])) rfl rfl (hb hby d5_13)) ?_
  show own_G p e below _ T8 (mkF m 14 #[.val (.ref a1), .val (.int (own_acc W 8)), .val (.int (8 : Int32))] [(.int (W 8)), (.int (own_acc W 8))])
  refine own_go (fun t k => XS.bipush X8.here hx rfl (hb hby d5_14) k) ?_
  show own_G p e below _ T8 (mkF m 16 #[.val (.ref a1), .val (.int (own_acc W 8)), .val (.int (8 : Int32))] [(.int (48 : Int32)), (.int (W 8)), (.int (own_acc W 8))])
  refine own_go (fun t k => XS.isub X8.here hx rfl (hb hby d5_16) rfl k) ?_
  show own_G p e below _ T8 (mkF m 17 #[.val (.ref a1), .val (.int (own_acc W 8)), .val (.int (8 : Int32))] [(.int ((W 8) - (48 : Int32))), (.int (own_acc W 8))])
  obtain ⟨T9, X9, e9, st9⟩ := getS X8 hx hZ hown (host := "") (hw _ (List.mem_of_getElem? (i := 20) rfl)) Via.refl e8 S_GENERAL_DIGIT_WEIGHTS (g := (mkF m 17 #[.val (.ref a1), .val (.int (own_acc W 8)), .val (.int (8 : Int32))] [(.int ((W 8) - (48 : Int32))), (.int (own_acc W 8))])) rfl (hb hby d5_17)
  refine own_go st9 ?_
  show own_G p e below _ T9 (mkF m 20 #[.val (.ref a1), .val (.int (own_acc W 8)), .val (.int (8 : Int32))] [(.ref a_GENERAL_DIGIT_WEIGHTS), (.int ((W 8) - (48 : Int32))), (.int (own_acc W 8))])
  refine own_go (fun t k => XS.iloadN X9.here hx rfl (hb hby d5_20) rfl k) ?_
  show own_G p e below _ T9 (mkF m 21 #[.val (.ref a1), .val (.int (own_acc W 8)), .val (.int (8 : Int32))] [(.int (8 : Int32)), (.ref a_GENERAL_DIGIT_WEIGHTS), (.int ((W 8) - (48 : Int32))), (.int (own_acc W 8))])
  refine own_go (X9.iaload hx (j := (8 : Int32)) (v := (.int (5 : Int32))) (own_cellAt e9 A_GENERAL_DIGIT_WEIGHTS) (State.isArrayOf_alike hZ.alike A_GENERAL_DIGIT_WEIGHTS.2.1) A_GENERAL_DIGIT_WEIGHTS.2.2 (own_in Z_GENERAL_DIGIT_WEIGHTS (by decide)) V_GENERAL_DIGIT_WEIGHTS_8 (g := (mkF m 21 #[.val (.ref a1), .val (.int (own_acc W 8)), .val (.int (8 : Int32))] [(.int (8 : Int32)), (.ref a_GENERAL_DIGIT_WEIGHTS), (.int ((W 8) - (48 : Int32))), (.int (own_acc W 8))])) rfl rfl (hb hby d5_21)) ?_
  show own_G p e below _ T9 (mkF m 22 #[.val (.ref a1), .val (.int (own_acc W 8)), .val (.int (8 : Int32))] [(.int (5 : Int32)), (.int ((W 8) - (48 : Int32))), (.int (own_acc W 8))])
  refine own_go (fun t k => XS.imul X9.here hx rfl (hb hby d5_22) rfl k) ?_
  show own_G p e below _ T9 (mkF m 23 #[.val (.ref a1), .val (.int (own_acc W 8)), .val (.int (8 : Int32))] [(.int (((W 8) - (48 : Int32)) * (5 : Int32))), (.int (own_acc W 8))])
  refine own_go (fun t k => XS.iadd X9.here hx rfl (hb hby d5_23) rfl k) ?_
  show own_G p e below _ T9 (mkF m 24 #[.val (.ref a1), .val (.int (own_acc W 8)), .val (.int (8 : Int32))] [(.int (own_acc W 9))])
  refine own_go (fun t k => XS.istoreN X9.here hx rfl (hb hby d5_24) rfl (l' := #[.val (.ref a1), .val (.int (own_acc W 9)), .val (.int (8 : Int32))]) rfl k) ?_
  show own_G p e below _ T9 (mkF m 25 #[.val (.ref a1), .val (.int (own_acc W 9)), .val (.int (8 : Int32))] [])
  refine own_go (fun t k => XS.iinc X9.here hx rfl (hb hby d5_25) rfl (l' := #[.val (.ref a1), .val (.int (own_acc W 9)), .val (.int (9 : Int32))]) rfl k) ?_
  show own_G p e below _ T9 (mkF m 28 #[.val (.ref a1), .val (.int (own_acc W 9)), .val (.int (9 : Int32))] [])
  refine own_go (fun t k => XS.goto X9.here hx rfl (pc0 := 28) (pc' := 4) rfl (hb hby d5_28) (by decide) (by decide) k) ?_
  show own_G p e below _ T9 (mkF m 4 #[.val (.ref a1), .val (.int (own_acc W 9)), .val (.int (9 : Int32))] [])
  refine own_go (fun t k => XS.iloadN X9.here hx rfl (hb hby d5_4) rfl k) ?_
  show own_G p e below _ T9 (mkF m 5 #[.val (.ref a1), .val (.int (own_acc W 9)), .val (.int (9 : Int32))] [(.int (9 : Int32))])
  refine own_go (fun t k => XS.bipush X9.here hx rfl (hb hby d5_5) k) ?_
  show own_G p e below _ T9 (mkF m 7 #[.val (.ref a1), .val (.int (own_acc W 9)), .val (.int (9 : Int32))] [(.int (44 : Int32)), (.int (9 : Int32))])
  refine own_go (fun t k => XS.icmpNo X9.here hx rfl (hb hby d5_7) rfl (by decide) k) ?_
  show own_G p e below _ T9 (mkF m 10 #[.val (.ref a1), .val (.int (own_acc W 9)), .val (.int (9 : Int32))] [])
  refine own_go (fun t k => XS.iloadN X9.here hx rfl (hb hby d5_10) rfl k) ?_
  show own_G p e below _ T9 (mkF m 11 #[.val (.ref a1), .val (.int (own_acc W 9)), .val (.int (9 : Int32))] [(.int (own_acc W 9))])
  refine own_go (fun t k => XS.aloadN X9.here hx rfl (hb hby d5_11) rfl rfl k) ?_
  show own_G p e below _ T9 (mkF m 12 #[.val (.ref a1), .val (.int (own_acc W 9)), .val (.int (9 : Int32))] [(.ref a1), (.int (own_acc W 9))])
  refine own_go (fun t k => XS.iloadN X9.here hx rfl (hb hby d5_12) rfl k) ?_
  show own_G p e below _ T9 (mkF m 13 #[.val (.ref a1), .val (.int (own_acc W 9)), .val (.int (9 : Int32))] [(.int (9 : Int32)), (.ref a1), (.int (own_acc W 9))])
  refine own_go (X9.caload hx (j := (9 : Int32)) (v := .int (W 9)) (own_cellAt e9 Ar) (State.isArrayOf_alike hZ.alike Ar.2.1) Ar.2.2 (own_in hsz (by decide)) (hat 9 (by decide)) (g := (mkF m 13 #[.val (.ref a1), .val (.int (own_acc W 9)), .val (.int (9 : Int32))] [(.int (9 : Int32)), (.ref a1), (.int (own_acc W 9))])) rfl rfl (hb hby d5_13)) ?_
  show own_G p e below _ T9 (mkF m 14 #[.val (.ref a1), .val (.int (own_acc W 9)), .val (.int (9 : Int32))] [(.int (W 9)), (.int (own_acc W 9))])
  refine own_go (fun t k => XS.bipush X9.here hx rfl (hb hby d5_14) k) ?_
  show own_G p e below _ T9 (mkF m 16 #[.val (.ref a1), .val (.int (own_acc W 9)), .val (.int (9 : Int32))] [(.int (48 : Int32)), (.int (W 9)), (.int (own_acc W 9))])
  refine own_go (fun t k => XS.isub X9.here hx rfl (hb hby d5_16) rfl k) ?_
  show own_G p e below _ T9 (mkF m 17 #[.val (.ref a1), .val (.int (own_acc W 9)), .val (.int (9 : Int32))] [(.int ((W 9) - (48 : Int32))), (.int (own_acc W 9))])
  obtain ⟨T10, X10, e10, st10⟩ := getS X9 hx hZ hown (host := "") (hw _ (List.mem_of_getElem? (i := 20) rfl)) Via.refl e9 S_GENERAL_DIGIT_WEIGHTS (g := (mkF m 17 #[.val (.ref a1), .val (.int (own_acc W 9)), .val (.int (9 : Int32))] [(.int ((W 9) - (48 : Int32))), (.int (own_acc W 9))])) rfl (hb hby d5_17)
  refine own_go st10 ?_
  show own_G p e below _ T10 (mkF m 20 #[.val (.ref a1), .val (.int (own_acc W 9)), .val (.int (9 : Int32))] [(.ref a_GENERAL_DIGIT_WEIGHTS), (.int ((W 9) - (48 : Int32))), (.int (own_acc W 9))])
  refine own_go (fun t k => XS.iloadN X10.here hx rfl (hb hby d5_20) rfl k) ?_
  show own_G p e below _ T10 (mkF m 21 #[.val (.ref a1), .val (.int (own_acc W 9)), .val (.int (9 : Int32))] [(.int (9 : Int32)), (.ref a_GENERAL_DIGIT_WEIGHTS), (.int ((W 9) - (48 : Int32))), (.int (own_acc W 9))])
  refine own_go (X10.iaload hx (j := (9 : Int32)) (v := (.int (4 : Int32))) (own_cellAt e10 A_GENERAL_DIGIT_WEIGHTS) (State.isArrayOf_alike hZ.alike A_GENERAL_DIGIT_WEIGHTS.2.1) A_GENERAL_DIGIT_WEIGHTS.2.2 (own_in Z_GENERAL_DIGIT_WEIGHTS (by decide)) V_GENERAL_DIGIT_WEIGHTS_9 (g := (mkF m 21 #[.val (.ref a1), .val (.int (own_acc W 9)), .val (.int (9 : Int32))] [(.int (9 : Int32)), (.ref a_GENERAL_DIGIT_WEIGHTS), (.int ((W 9) - (48 : Int32))), (.int (own_acc W 9))])) rfl rfl (hb hby d5_21)) ?_
  show own_G p e below _ T10 (mkF m 22 #[.val (.ref a1), .val (.int (own_acc W 9)), .val (.int (9 : Int32))] [(.int (4 : Int32)), (.int ((W 9) - (48 : Int32))), (.int (own_acc W 9))])
  refine own_go (fun t k => XS.imul X10.here hx rfl (hb hby d5_22) rfl k) ?_
  show own_G p e below _ T10 (mkF m 23 #[.val (.ref a1), .val (.int (own_acc W 9)), .val (.int (9 : Int32))] [(.int (((W 9) - (48 : Int32)) * (4 : Int32))), (.int (own_acc W 9))])
  refine own_go (fun t k => XS.iadd X10.here hx rfl (hb hby d5_23) rfl k) ?_
  show own_G p e below _ T10 (mkF m 24 #[.val (.ref a1), .val (.int (own_acc W 9)), .val (.int (9 : Int32))] [(.int (own_acc W 10))])
  refine own_go (fun t k => XS.istoreN X10.here hx rfl (hb hby d5_24) rfl (l' := #[.val (.ref a1), .val (.int (own_acc W 10)), .val (.int (9 : Int32))]) rfl k) ?_
  show own_G p e below _ T10 (mkF m 25 #[.val (.ref a1), .val (.int (own_acc W 10)), .val (.int (9 : Int32))] [])
  refine own_go (fun t k => XS.iinc X10.here hx rfl (hb hby d5_25) rfl (l' := #[.val (.ref a1), .val (.int (own_acc W 10)), .val (.int (10 : Int32))]) rfl k) ?_
  show own_G p e below _ T10 (mkF m 28 #[.val (.ref a1), .val (.int (own_acc W 10)), .val (.int (10 : Int32))] [])
  refine own_go (fun t k => XS.goto X10.here hx rfl (pc0 := 28) (pc' := 4) rfl (hb hby d5_28) (by decide) (by decide) k) ?_
  show own_G p e below _ T10 (mkF m 4 #[.val (.ref a1), .val (.int (own_acc W 10)), .val (.int (10 : Int32))] [])
  refine own_go (fun t k => XS.iloadN X10.here hx rfl (hb hby d5_4) rfl k) ?_
  show own_G p e below _ T10 (mkF m 5 #[.val (.ref a1), .val (.int (own_acc W 10)), .val (.int (10 : Int32))] [(.int (10 : Int32))])
  refine own_go (fun t k => XS.bipush X10.here hx rfl (hb hby d5_5) k) ?_
  show own_G p e below _ T10 (mkF m 7 #[.val (.ref a1), .val (.int (own_acc W 10)), .val (.int (10 : Int32))] [(.int (44 : Int32)), (.int (10 : Int32))])
  refine own_go (fun t k => XS.icmpNo X10.here hx rfl (hb hby d5_7) rfl (by decide) k) ?_
  show own_G p e below _ T10 (mkF m 10 #[.val (.ref a1), .val (.int (own_acc W 10)), .val (.int (10 : Int32))] [])
  refine own_go (fun t k => XS.iloadN X10.here hx rfl (hb hby d5_10) rfl k) ?_
  show own_G p e below _ T10 (mkF m 11 #[.val (.ref a1), .val (.int (own_acc W 10)), .val (.int (10 : Int32))] [(.int (own_acc W 10))])
  refine own_go (fun t k => XS.aloadN X10.here hx rfl (hb hby d5_11) rfl rfl k) ?_
  show own_G p e below _ T10 (mkF m 12 #[.val (.ref a1), .val (.int (own_acc W 10)), .val (.int (10 : Int32))] [(.ref a1), (.int (own_acc W 10))])
  refine own_go (fun t k => XS.iloadN X10.here hx rfl (hb hby d5_12) rfl k) ?_
  show own_G p e below _ T10 (mkF m 13 #[.val (.ref a1), .val (.int (own_acc W 10)), .val (.int (10 : Int32))] [(.int (10 : Int32)), (.ref a1), (.int (own_acc W 10))])
  refine own_go (X10.caload hx (j := (10 : Int32)) (v := .int (W 10)) (own_cellAt e10 Ar) (State.isArrayOf_alike hZ.alike Ar.2.1) Ar.2.2 (own_in hsz (by decide)) (hat 10 (by decide)) (g := (mkF m 13 #[.val (.ref a1), .val (.int (own_acc W 10)), .val (.int (10 : Int32))] [(.int (10 : Int32)), (.ref a1), (.int (own_acc W 10))])) rfl rfl (hb hby d5_13)) ?_
  show own_G p e below _ T10 (mkF m 14 #[.val (.ref a1), .val (.int (own_acc W 10)), .val (.int (10 : Int32))] [(.int (W 10)), (.int (own_acc W 10))])
  refine own_go (fun t k => XS.bipush X10.here hx rfl (hb hby d5_14) k) ?_
  show own_G p e below _ T10 (mkF m 16 #[.val (.ref a1), .val (.int (own_acc W 10)), .val (.int (10 : Int32))] [(.int (48 : Int32)), (.int (W 10)), (.int (own_acc W 10))])
  refine own_go (fun t k => XS.isub X10.here hx rfl (hb hby d5_16) rfl k) ?_
  show own_G p e below _ T10 (mkF m 17 #[.val (.ref a1), .val (.int (own_acc W 10)), .val (.int (10 : Int32))] [(.int ((W 10) - (48 : Int32))), (.int (own_acc W 10))])
  obtain ⟨T11, X11, e11, st11⟩ := getS X10 hx hZ hown (host := "") (hw _ (List.mem_of_getElem? (i := 20) rfl)) Via.refl e10 S_GENERAL_DIGIT_WEIGHTS (g := (mkF m 17 #[.val (.ref a1), .val (.int (own_acc W 10)), .val (.int (10 : Int32))] [(.int ((W 10) - (48 : Int32))), (.int (own_acc W 10))])) rfl (hb hby d5_17)
  refine own_go st11 ?_
  show own_G p e below _ T11 (mkF m 20 #[.val (.ref a1), .val (.int (own_acc W 10)), .val (.int (10 : Int32))] [(.ref a_GENERAL_DIGIT_WEIGHTS), (.int ((W 10) - (48 : Int32))), (.int (own_acc W 10))])
  refine own_go (fun t k => XS.iloadN X11.here hx rfl (hb hby d5_20) rfl k) ?_
  show own_G p e below _ T11 (mkF m 21 #[.val (.ref a1), .val (.int (own_acc W 10)), .val (.int (10 : Int32))] [(.int (10 : Int32)), (.ref a_GENERAL_DIGIT_WEIGHTS), (.int ((W 10) - (48 : Int32))), (.int (own_acc W 10))])
  refine own_go (X11.iaload hx (j := (10 : Int32)) (v := (.int (3 : Int32))) (own_cellAt e11 A_GENERAL_DIGIT_WEIGHTS) (State.isArrayOf_alike hZ.alike A_GENERAL_DIGIT_WEIGHTS.2.1) A_GENERAL_DIGIT_WEIGHTS.2.2 (own_in Z_GENERAL_DIGIT_WEIGHTS (by decide)) V_GENERAL_DIGIT_WEIGHTS_10 (g := (mkF m 21 #[.val (.ref a1), .val (.int (own_acc W 10)), .val (.int (10 : Int32))] [(.int (10 : Int32)), (.ref a_GENERAL_DIGIT_WEIGHTS), (.int ((W 10) - (48 : Int32))), (.int (own_acc W 10))])) rfl rfl (hb hby d5_21)) ?_
  show own_G p e below _ T11 (mkF m 22 #[.val (.ref a1), .val (.int (own_acc W 10)), .val (.int (10 : Int32))] [(.int (3 : Int32)), (.int ((W 10) - (48 : Int32))), (.int (own_acc W 10))])
  refine own_go (fun t k => XS.imul X11.here hx rfl (hb hby d5_22) rfl k) ?_
  show own_G p e below _ T11 (mkF m 23 #[.val (.ref a1), .val (.int (own_acc W 10)), .val (.int (10 : Int32))] [(.int (((W 10) - (48 : Int32)) * (3 : Int32))), (.int (own_acc W 10))])
  refine own_go (fun t k => XS.iadd X11.here hx rfl (hb hby d5_23) rfl k) ?_
  show own_G p e below _ T11 (mkF m 24 #[.val (.ref a1), .val (.int (own_acc W 10)), .val (.int (10 : Int32))] [(.int (own_acc W 11))])
  refine own_go (fun t k => XS.istoreN X11.here hx rfl (hb hby d5_24) rfl (l' := #[.val (.ref a1), .val (.int (own_acc W 11)), .val (.int (10 : Int32))]) rfl k) ?_
  show own_G p e below _ T11 (mkF m 25 #[.val (.ref a1), .val (.int (own_acc W 11)), .val (.int (10 : Int32))] [])
  refine own_go (fun t k => XS.iinc X11.here hx rfl (hb hby d5_25) rfl (l' := #[.val (.ref a1), .val (.int (own_acc W 11)), .val (.int (11 : Int32))]) rfl k) ?_
  show own_G p e below _ T11 (mkF m 28 #[.val (.ref a1), .val (.int (own_acc W 11)), .val (.int (11 : Int32))] [])
  refine own_go (fun t k => XS.goto X11.here hx rfl (pc0 := 28) (pc' := 4) rfl (hb hby d5_28) (by decide) (by decide) k) ?_
  show own_G p e below _ T11 (mkF m 4 #[.val (.ref a1), .val (.int (own_acc W 11)), .val (.int (11 : Int32))] [])
  refine own_go (fun t k => XS.iloadN X11.here hx rfl (hb hby d5_4) rfl k) ?_
  show own_G p e below _ T11 (mkF m 5 #[.val (.ref a1), .val (.int (own_acc W 11)), .val (.int (11 : Int32))] [(.int (11 : Int32))])
  refine own_go (fun t k => XS.bipush X11.here hx rfl (hb hby d5_5) k) ?_
  show own_G p e below _ T11 (mkF m 7 #[.val (.ref a1), .val (.int (own_acc W 11)), .val (.int (11 : Int32))] [(.int (44 : Int32)), (.int (11 : Int32))])
  refine own_go (fun t k => XS.icmpNo X11.here hx rfl (hb hby d5_7) rfl (by decide) k) ?_
  show own_G p e below _ T11 (mkF m 10 #[.val (.ref a1), .val (.int (own_acc W 11)), .val (.int (11 : Int32))] [])
  refine own_go (fun t k => XS.iloadN X11.here hx rfl (hb hby d5_10) rfl k) ?_
  show own_G p e below _ T11 (mkF m 11 #[.val (.ref a1), .val (.int (own_acc W 11)), .val (.int (11 : Int32))] [(.int (own_acc W 11))])
  refine own_go (fun t k => XS.aloadN X11.here hx rfl (hb hby d5_11) rfl rfl k) ?_
  show own_G p e below _ T11 (mkF m 12 #[.val (.ref a1), .val (.int (own_acc W 11)), .val (.int (11 : Int32))] [(.ref a1), (.int (own_acc W 11))])
  refine own_go (fun t k => XS.iloadN X11.here hx rfl (hb hby d5_12) rfl k) ?_
  show own_G p e below _ T11 (mkF m 13 #[.val (.ref a1), .val (.int (own_acc W 11)), .val (.int (11 : Int32))] [(.int (11 : Int32)), (.ref a1), (.int (own_acc W 11))])
  refine own_go (X11.caload hx (j := (11 : Int32)) (v := .int (W 11)) (own_cellAt e11 Ar) (State.isArrayOf_alike hZ.alike Ar.2.1) Ar.2.2 (own_in hsz (by decide)) (hat 11 (by decide)) (g := (mkF m 13 #[.val (.ref a1), .val (.int (own_acc W 11)), .val (.int (11 : Int32))] [(.int (11 : Int32)), (.ref a1), (.int (own_acc W 11))])) rfl rfl (hb hby d5_13)) ?_
  show own_G p e below _ T11 (mkF m 14 #[.val (.ref a1), .val (.int (own_acc W 11)), .val (.int (11 : Int32))] [(.int (W 11)), (.int (own_acc W 11))])
  refine own_go (fun t k => XS.bipush X11.here hx rfl (hb hby d5_14) k) ?_
  show own_G p e below _ T11 (mkF m 16 #[.val (.ref a1), .val (.int (own_acc W 11)), .val (.int (11 : Int32))] [(.int (48 : Int32)), (.int (W 11)), (.int (own_acc W 11))])
  refine own_go (fun t k => XS.isub X11.here hx rfl (hb hby d5_16) rfl k) ?_
  show own_G p e below _ T11 (mkF m 17 #[.val (.ref a1), .val (.int (own_acc W 11)), .val (.int (11 : Int32))] [(.int ((W 11) - (48 : Int32))), (.int (own_acc W 11))])
  obtain ⟨T12, X12, e12, st12⟩ := getS X11 hx hZ hown (host := "") (hw _ (List.mem_of_getElem? (i := 20) rfl)) Via.refl e11 S_GENERAL_DIGIT_WEIGHTS (g := (mkF m 17 #[.val (.ref a1), .val (.int (own_acc W 11)), .val (.int (11 : Int32))] [(.int ((W 11) - (48 : Int32))), (.int (own_acc W 11))])) rfl (hb hby d5_17)
  refine own_go st12 ?_
  show own_G p e below _ T12 (mkF m 20 #[.val (.ref a1), .val (.int (own_acc W 11)), .val (.int (11 : Int32))] [(.ref a_GENERAL_DIGIT_WEIGHTS), (.int ((W 11) - (48 : Int32))), (.int (own_acc W 11))])
  refine own_go (fun t k => XS.iloadN X12.here hx rfl (hb hby d5_20) rfl k) ?_
  show own_G p e below _ T12 (mkF m 21 #[.val (.ref a1), .val (.int (own_acc W 11)), .val (.int (11 : Int32))] [(.int (11 : Int32)), (.ref a_GENERAL_DIGIT_WEIGHTS), (.int ((W 11) - (48 : Int32))), (.int (own_acc W 11))])
  refine own_go (X12.iaload hx (j := (11 : Int32)) (v := (.int (2 : Int32))) (own_cellAt e12 A_GENERAL_DIGIT_WEIGHTS) (State.isArrayOf_alike hZ.alike A_GENERAL_DIGIT_WEIGHTS.2.1) A_GENERAL_DIGIT_WEIGHTS.2.2 (own_in Z_GENERAL_DIGIT_WEIGHTS (by decide)) V_GENERAL_DIGIT_WEIGHTS_11 (g := (mkF m 21 #[.val (.ref a1), .val (.int (own_acc W 11)), .val (.int (11 : Int32))] [(.int (11 : Int32)), (.ref a_GENERAL_DIGIT_WEIGHTS), (.int ((W 11) - (48 : Int32))), (.int (own_acc W 11))])) rfl rfl (hb hby d5_21)) ?_
  show own_G p e below _ T12 (mkF m 22 #[.val (.ref a1), .val (.int (own_acc W 11)), .val (.int (11 : Int32))] [(.int (2 : Int32)), (.int ((W 11) - (48 : Int32))), (.int (own_acc W 11))])
  refine own_go (fun t k => XS.imul X12.here hx rfl (hb hby d5_22) rfl k) ?_
  show own_G p e below _ T12 (mkF m 23 #[.val (.ref a1), .val (.int (own_acc W 11)), .val (.int (11 : Int32))] [(.int (((W 11) - (48 : Int32)) * (2 : Int32))), (.int (own_acc W 11))])
  refine own_go (fun t k => XS.iadd X12.here hx rfl (hb hby d5_23) rfl k) ?_
  show own_G p e below _ T12 (mkF m 24 #[.val (.ref a1), .val (.int (own_acc W 11)), .val (.int (11 : Int32))] [(.int (own_acc W 12))])
  refine own_go (fun t k => XS.istoreN X12.here hx rfl (hb hby d5_24) rfl (l' := #[.val (.ref a1), .val (.int (own_acc W 12)), .val (.int (11 : Int32))]) rfl k) ?_
  show own_G p e below _ T12 (mkF m 25 #[.val (.ref a1), .val (.int (own_acc W 12)), .val (.int (11 : Int32))] [])
  refine own_go (fun t k => XS.iinc X12.here hx rfl (hb hby d5_25) rfl (l' := #[.val (.ref a1), .val (.int (own_acc W 12)), .val (.int (12 : Int32))]) rfl k) ?_
  show own_G p e below _ T12 (mkF m 28 #[.val (.ref a1), .val (.int (own_acc W 12)), .val (.int (12 : Int32))] [])
  refine own_go (fun t k => XS.goto X12.here hx rfl (pc0 := 28) (pc' := 4) rfl (hb hby d5_28) (by decide) (by decide) k) ?_
  show own_G p e below _ T12 (mkF m 4 #[.val (.ref a1), .val (.int (own_acc W 12)), .val (.int (12 : Int32))] [])
  refine own_go (fun t k => XS.iloadN X12.here hx rfl (hb hby d5_4) rfl k) ?_
  show own_G p e below _ T12 (mkF m 5 #[.val (.ref a1), .val (.int (own_acc W 12)), .val (.int (12 : Int32))] [(.int (12 : Int32))])
  refine own_go (fun t k => XS.bipush X12.here hx rfl (hb hby d5_5) k) ?_
  show own_G p e below _ T12 (mkF m 7 #[.val (.ref a1), .val (.int (own_acc W 12)), .val (.int (12 : Int32))] [(.int (44 : Int32)), (.int (12 : Int32))])
  refine own_go (fun t k => XS.icmpNo X12.here hx rfl (hb hby d5_7) rfl (by decide) k) ?_
  show own_G p e below _ T12 (mkF m 10 #[.val (.ref a1), .val (.int (own_acc W 12)), .val (.int (12 : Int32))] [])
  refine own_go (fun t k => XS.iloadN X12.here hx rfl (hb hby d5_10) rfl k) ?_
  show own_G p e below _ T12 (mkF m 11 #[.val (.ref a1), .val (.int (own_acc W 12)), .val (.int (12 : Int32))] [(.int (own_acc W 12))])
  refine own_go (fun t k => XS.aloadN X12.here hx rfl (hb hby d5_11) rfl rfl k) ?_
  show own_G p e below _ T12 (mkF m 12 #[.val (.ref a1), .val (.int (own_acc W 12)), .val (.int (12 : Int32))] [(.ref a1), (.int (own_acc W 12))])
  refine own_go (fun t k => XS.iloadN X12.here hx rfl (hb hby d5_12) rfl k) ?_
  show own_G p e below _ T12 (mkF m 13 #[.val (.ref a1), .val (.int (own_acc W 12)), .val (.int (12 : Int32))] [(.int (12 : Int32)), (.ref a1), (.int (own_acc W 12))])
  refine own_go (X12.caload hx (j := (12 : Int32)) (v := .int (W 12)) (own_cellAt e12 Ar) (State.isArrayOf_alike hZ.alike Ar.2.1) Ar.2.2 (own_in hsz (by decide)) (hat 12 (by decide)) (g := (mkF m 13 #[.val (.ref a1), .val (.int (own_acc W 12)), .val (.int (12 : Int32))] [(.int (12 : Int32)), (.ref a1), (.int (own_acc W 12))])) rfl rfl (hb hby d5_13)) ?_
  show own_G p e below _ T12 (mkF m 14 #[.val (.ref a1), .val (.int (own_acc W 12)), .val (.int (12 : Int32))] [(.int (W 12)), (.int (own_acc W 12))])
  refine own_go (fun t k => XS.bipush X12.here hx rfl (hb hby d5_14) k) ?_
  show own_G p e below _ T12 (mkF m 16 #[.val (.ref a1), .val (.int (own_acc W 12)), .val (.int (12 : Int32))] [(.int (48 : Int32)), (.int (W 12)), (.int (own_acc W 12))])
  refine own_go (fun t k => XS.isub X12.here hx rfl (hb hby d5_16) rfl k) ?_
  show own_G p e below _ T12 (mkF m 17 #[.val (.ref a1), .val (.int (own_acc W 12)), .val (.int (12 : Int32))] [(.int ((W 12) - (48 : Int32))), (.int (own_acc W 12))])
  obtain ⟨T13, X13, e13, st13⟩ := getS X12 hx hZ hown (host := "") (hw _ (List.mem_of_getElem? (i := 20) rfl)) Via.refl e12 S_GENERAL_DIGIT_WEIGHTS (g := (mkF m 17 #[.val (.ref a1), .val (.int (own_acc W 12)), .val (.int (12 : Int32))] [(.int ((W 12) - (48 : Int32))), (.int (own_acc W 12))])) rfl (hb hby d5_17)
  refine own_go st13 ?_
  show own_G p e below _ T13 (mkF m 20 #[.val (.ref a1), .val (.int (own_acc W 12)), .val (.int (12 : Int32))] [(.ref a_GENERAL_DIGIT_WEIGHTS), (.int ((W 12) - (48 : Int32))), (.int (own_acc W 12))])
  refine own_go (fun t k => XS.iloadN X13.here hx rfl (hb hby d5_20) rfl k) ?_
  show own_G p e below _ T13 (mkF m 21 #[.val (.ref a1), .val (.int (own_acc W 12)), .val (.int (12 : Int32))] [(.int (12 : Int32)), (.ref a_GENERAL_DIGIT_WEIGHTS), (.int ((W 12) - (48 : Int32))), (.int (own_acc W 12))])
  refine own_go (X13.iaload hx (j := (12 : Int32)) (v := (.int (9 : Int32))) (own_cellAt e13 A_GENERAL_DIGIT_WEIGHTS) (State.isArrayOf_alike hZ.alike A_GENERAL_DIGIT_WEIGHTS.2.1) A_GENERAL_DIGIT_WEIGHTS.2.2 (own_in Z_GENERAL_DIGIT_WEIGHTS (by decide)) V_GENERAL_DIGIT_WEIGHTS_12 (g := (mkF m 21 #[.val (.ref a1), .val (.int (own_acc W 12)), .val (.int (12 : Int32))] [(.int (12 : Int32)), (.ref a_GENERAL_DIGIT_WEIGHTS), (.int ((W 12) - (48 : Int32))), (.int (own_acc W 12))])) rfl rfl (hb hby d5_21)) ?_
  show own_G p e below _ T13 (mkF m 22 #[.val (.ref a1), .val (.int (own_acc W 12)), .val (.int (12 : Int32))] [(.int (9 : Int32)), (.int ((W 12) - (48 : Int32))), (.int (own_acc W 12))])
  refine own_go (fun t k => XS.imul X13.here hx rfl (hb hby d5_22) rfl k) ?_
  show own_G p e below _ T13 (mkF m 23 #[.val (.ref a1), .val (.int (own_acc W 12)), .val (.int (12 : Int32))] [(.int (((W 12) - (48 : Int32)) * (9 : Int32))), (.int (own_acc W 12))])
  refine own_go (fun t k => XS.iadd X13.here hx rfl (hb hby d5_23) rfl k) ?_
  show own_G p e below _ T13 (mkF m 24 #[.val (.ref a1), .val (.int (own_acc W 12)), .val (.int (12 : Int32))] [(.int (own_acc W 13))])
  refine own_go (fun t k => XS.istoreN X13.here hx rfl (hb hby d5_24) rfl (l' := #[.val (.ref a1), .val (.int (own_acc W 13)), .val (.int (12 : Int32))]) rfl k) ?_
  show own_G p e below _ T13 (mkF m 25 #[.val (.ref a1), .val (.int (own_acc W 13)), .val (.int (12 : Int32))] [])
  refine own_go (fun t k => XS.iinc X13.here hx rfl (hb hby d5_25) rfl (l' := #[.val (.ref a1), .val (.int (own_acc W 13)), .val (.int (13 : Int32))]) rfl k) ?_
  show own_G p e below _ T13 (mkF m 28 #[.val (.ref a1), .val (.int (own_acc W 13)), .val (.int (13 : Int32))] [])
  refine own_go (fun t k => XS.goto X13.here hx rfl (pc0 := 28) (pc' := 4) rfl (hb hby d5_28) (by decide) (by decide) k) ?_
  show own_G p e below _ T13 (mkF m 4 #[.val (.ref a1), .val (.int (own_acc W 13)), .val (.int (13 : Int32))] [])
  refine own_go (fun t k => XS.iloadN X13.here hx rfl (hb hby d5_4) rfl k) ?_
  show own_G p e below _ T13 (mkF m 5 #[.val (.ref a1), .val (.int (own_acc W 13)), .val (.int (13 : Int32))] [(.int (13 : Int32))])
  refine own_go (fun t k => XS.bipush X13.here hx rfl (hb hby d5_5) k) ?_
  show own_G p e below _ T13 (mkF m 7 #[.val (.ref a1), .val (.int (own_acc W 13)), .val (.int (13 : Int32))] [(.int (44 : Int32)), (.int (13 : Int32))])
  refine own_go (fun t k => XS.icmpNo X13.here hx rfl (hb hby d5_7) rfl (by decide) k) ?_
  show own_G p e below _ T13 (mkF m 10 #[.val (.ref a1), .val (.int (own_acc W 13)), .val (.int (13 : Int32))] [])
  refine own_go (fun t k => XS.iloadN X13.here hx rfl (hb hby d5_10) rfl k) ?_
  show own_G p e below _ T13 (mkF m 11 #[.val (.ref a1), .val (.int (own_acc W 13)), .val (.int (13 : Int32))] [(.int (own_acc W 13))])
  refine own_go (fun t k => XS.aloadN X13.here hx rfl (hb hby d5_11) rfl rfl k) ?_
  show own_G p e below _ T13 (mkF m 12 #[.val (.ref a1), .val (.int (own_acc W 13)), .val (.int (13 : Int32))] [(.ref a1), (.int (own_acc W 13))])
  refine own_go (fun t k => XS.iloadN X13.here hx rfl (hb hby d5_12) rfl k) ?_
  show own_G p e below _ T13 (mkF m 13 #[.val (.ref a1), .val (.int (own_acc W 13)), .val (.int (13 : Int32))] [(.int (13 : Int32)), (.ref a1), (.int (own_acc W 13))])
  refine own_go (X13.caload hx (j := (13 : Int32)) (v := .int (W 13)) (own_cellAt e13 Ar) (State.isArrayOf_alike hZ.alike Ar.2.1) Ar.2.2 (own_in hsz (by decide)) (hat 13 (by decide)) (g := (mkF m 13 #[.val (.ref a1), .val (.int (own_acc W 13)), .val (.int (13 : Int32))] [(.int (13 : Int32)), (.ref a1), (.int (own_acc W 13))])) rfl rfl (hb hby d5_13)) ?_
  show own_G p e below _ T13 (mkF m 14 #[.val (.ref a1), .val (.int (own_acc W 13)), .val (.int (13 : Int32))] [(.int (W 13)), (.int (own_acc W 13))])
  refine own_go (fun t k => XS.bipush X13.here hx rfl (hb hby d5_14) k) ?_
  show own_G p e below _ T13 (mkF m 16 #[.val (.ref a1), .val (.int (own_acc W 13)), .val (.int (13 : Int32))] [(.int (48 : Int32)), (.int (W 13)), (.int (own_acc W 13))])
  refine own_go (fun t k => XS.isub X13.here hx rfl (hb hby d5_16) rfl k) ?_
  show own_G p e below _ T13 (mkF m 17 #[.val (.ref a1), .val (.int (own_acc W 13)), .val (.int (13 : Int32))] [(.int ((W 13) - (48 : Int32))), (.int (own_acc W 13))])
  obtain ⟨T14, X14, e14, st14⟩ := getS X13 hx hZ hown (host := "") (hw _ (List.mem_of_getElem? (i := 20) rfl)) Via.refl e13 S_GENERAL_DIGIT_WEIGHTS (g := (mkF m 17 #[.val (.ref a1), .val (.int (own_acc W 13)), .val (.int (13 : Int32))] [(.int ((W 13) - (48 : Int32))), (.int (own_acc W 13))])) rfl (hb hby d5_17)
  refine own_go st14 ?_
  show own_G p e below _ T14 (mkF m 20 #[.val (.ref a1), .val (.int (own_acc W 13)), .val (.int (13 : Int32))] [(.ref a_GENERAL_DIGIT_WEIGHTS), (.int ((W 13) - (48 : Int32))), (.int (own_acc W 13))])
  refine own_go (fun t k => XS.iloadN X14.here hx rfl (hb hby d5_20) rfl k) ?_
  show own_G p e below _ T14 (mkF m 21 #[.val (.ref a1), .val (.int (own_acc W 13)), .val (.int (13 : Int32))] [(.int (13 : Int32)), (.ref a_GENERAL_DIGIT_WEIGHTS), (.int ((W 13) - (48 : Int32))), (.int (own_acc W 13))])
  refine own_go (X14.iaload hx (j := (13 : Int32)) (v := (.int (8 : Int32))) (own_cellAt e14 A_GENERAL_DIGIT_WEIGHTS) (State.isArrayOf_alike hZ.alike A_GENERAL_DIGIT_WEIGHTS.2.1) A_GENERAL_DIGIT_WEIGHTS.2.2 (own_in Z_GENERAL_DIGIT_WEIGHTS (by decide)) V_GENERAL_DIGIT_WEIGHTS_13 (g := (mkF m 21 #[.val (.ref a1), .val (.int (own_acc W 13)), .val (.int (13 : Int32))] [(.int (13 : Int32)), (.ref a_GENERAL_DIGIT_WEIGHTS), (.int ((W 13) - (48 : Int32))), (.int (own_acc W 13))])) rfl rfl (hb hby d5_21)) ?_
  show own_G p e below _ T14 (mkF m 22 #[.val (.ref a1), .val (.int (own_acc W 13)), .val (.int (13 : Int32))] [(.int (8 : Int32)), (.int ((W 13) - (48 : Int32))), (.int (own_acc W 13))])
  refine own_go (fun t k => XS.imul X14.here hx rfl (hb hby d5_22) rfl k) ?_
  show own_G p e below _ T14 (mkF m 23 #[.val (.ref a1), .val (.int (own_acc W 13)), .val (.int (13 : Int32))] [(.int (((W 13) - (48 : Int32)) * (8 : Int32))), (.int (own_acc W 13))])
  refine own_go (fun t k => XS.iadd X14.here hx rfl (hb hby d5_23) rfl k) ?_
  show own_G p e below _ T14 (mkF m 24 #[.val (.ref a1), .val (.int (own_acc W 13)), .val (.int (13 : Int32))] [(.int (own_acc W 14))])
  refine own_go (fun t k => XS.istoreN X14.here hx rfl (hb hby d5_24) rfl (l' := #[.val (.ref a1), .val (.int (own_acc W 14)), .val (.int (13 : Int32))]) rfl k) ?_
  show own_G p e below _ T14 (mkF m 25 #[.val (.ref a1), .val (.int (own_acc W 14)), .val (.int (13 : Int32))] [])
  refine own_go (fun t k => XS.iinc X14.here hx rfl (hb hby d5_25) rfl (l' := #[.val (.ref a1), .val (.int (own_acc W 14)), .val (.int (14 : Int32))]) rfl k) ?_
  show own_G p e below _ T14 (mkF m 28 #[.val (.ref a1), .val (.int (own_acc W 14)), .val (.int (14 : Int32))] [])
  refine own_go (fun t k => XS.goto X14.here hx rfl (pc0 := 28) (pc' := 4) rfl (hb hby d5_28) (by decide) (by decide) k) ?_
  show own_G p e below _ T14 (mkF m 4 #[.val (.ref a1), .val (.int (own_acc W 14)), .val (.int (14 : Int32))] [])
  refine own_go (fun t k => XS.iloadN X14.here hx rfl (hb hby d5_4) rfl k) ?_
  show own_G p e below _ T14 (mkF m 5 #[.val (.ref a1), .val (.int (own_acc W 14)), .val (.int (14 : Int32))] [(.int (14 : Int32))])
  refine own_go (fun t k => XS.bipush X14.here hx rfl (hb hby d5_5) k) ?_
  show own_G p e below _ T14 (mkF m 7 #[.val (.ref a1), .val (.int (own_acc W 14)), .val (.int (14 : Int32))] [(.int (44 : Int32)), (.int (14 : Int32))])
  refine own_go (fun t k => XS.icmpNo X14.here hx rfl (hb hby d5_7) rfl (by decide) k) ?_
  show own_G p e below _ T14 (mkF m 10 #[.val (.ref a1), .val (.int (own_acc W 14)), .val (.int (14 : Int32))] [])
  refine own_go (fun t k => XS.iloadN X14.here hx rfl (hb hby d5_10) rfl k) ?_
  show own_G p e below _ T14 (mkF m 11 #[.val (.ref a1), .val (.int (own_acc W 14)), .val (.int (14 : Int32))] [(.int (own_acc W 14))])
  refine own_go (fun t k => XS.aloadN X14.here hx rfl (hb hby d5_11) rfl rfl k) ?_
  show own_G p e below _ T14 (mkF m 12 #[.val (.ref a1), .val (.int (own_acc W 14)), .val (.int (14 : Int32))] [(.ref a1), (.int (own_acc W 14))])
  refine own_go (fun t k => XS.iloadN X14.here hx rfl (hb hby d5_12) rfl k) ?_
  show own_G p e below _ T14 (mkF m 13 #[.val (.ref a1), .val (.int (own_acc W 14)), .val (.int (14 : Int32))] [(.int (14 : Int32)), (.ref a1), (.int (own_acc W 14))])
  refine own_go (X14.caload hx (j := (14 : Int32)) (v := .int (W 14)) (own_cellAt e14 Ar) (State.isArrayOf_alike hZ.alike Ar.2.1) Ar.2.2 (own_in hsz (by decide)) (hat 14 (by decide)) (g := (mkF m 13 #[.val (.ref a1), .val (.int (own_acc W 14)), .val (.int (14 : Int32))] [(.int (14 : Int32)), (.ref a1), (.int (own_acc W 14))])) rfl rfl (hb hby d5_13)) ?_
  show own_G p e below _ T14 (mkF m 14 #[.val (.ref a1), .val (.int (own_acc W 14)), .val (.int (14 : Int32))] [(.int (W 14)), (.int (own_acc W 14))])
  refine own_go (fun t k => XS.bipush X14.here hx rfl (hb hby d5_14) k) ?_
  show own_G p e below _ T14 (mkF m 16 #[.val (.ref a1), .val (.int (own_acc W 14)), .val (.int (14 : Int32))] [(.int (48 : Int32)), (.int (W 14)), (.int (own_acc W 14))])
  refine own_go (fun t k => XS.isub X14.here hx rfl (hb hby d5_16) rfl k) ?_
  show own_G p e below _ T14 (mkF m 17 #[.val (.ref a1), .val (.int (own_acc W 14)), .val (.int (14 : Int32))] [(.int ((W 14) - (48 : Int32))), (.int (own_acc W 14))])
  obtain ⟨T15, X15, e15, st15⟩ := getS X14 hx hZ hown (host := "") (hw _ (List.mem_of_getElem? (i := 20) rfl)) Via.refl e14 S_GENERAL_DIGIT_WEIGHTS (g := (mkF m 17 #[.val (.ref a1), .val (.int (own_acc W 14)), .val (.int (14 : Int32))] [(.int ((W 14) - (48 : Int32))), (.int (own_acc W 14))])) rfl (hb hby d5_17)
  refine own_go st15 ?_
  show own_G p e below _ T15 (mkF m 20 #[.val (.ref a1), .val (.int (own_acc W 14)), .val (.int (14 : Int32))] [(.ref a_GENERAL_DIGIT_WEIGHTS), (.int ((W 14) - (48 : Int32))), (.int (own_acc W 14))])
  refine own_go (fun t k => XS.iloadN X15.here hx rfl (hb hby d5_20) rfl k) ?_
  show own_G p e below _ T15 (mkF m 21 #[.val (.ref a1), .val (.int (own_acc W 14)), .val (.int (14 : Int32))] [(.int (14 : Int32)), (.ref a_GENERAL_DIGIT_WEIGHTS), (.int ((W 14) - (48 : Int32))), (.int (own_acc W 14))])
  refine own_go (X15.iaload hx (j := (14 : Int32)) (v := (.int (7 : Int32))) (own_cellAt e15 A_GENERAL_DIGIT_WEIGHTS) (State.isArrayOf_alike hZ.alike A_GENERAL_DIGIT_WEIGHTS.2.1) A_GENERAL_DIGIT_WEIGHTS.2.2 (own_in Z_GENERAL_DIGIT_WEIGHTS (by decide)) V_GENERAL_DIGIT_WEIGHTS_14 (g := (mkF m 21 #[.val (.ref a1), .val (.int (own_acc W 14)), .val (.int (14 : Int32))] [(.int (14 : Int32)), (.ref a_GENERAL_DIGIT_WEIGHTS), (.int ((W 14) - (48 : Int32))), (.int (own_acc W 14))])) rfl rfl (hb hby d5_21)) ?_
  show own_G p e below _ T15 (mkF m 22 #[.val (.ref a1), .val (.int (own_acc W 14)), .val (.int (14 : Int32))] [(.int (7 : Int32)), (.int ((W 14) - (48 : Int32))), (.int (own_acc W 14))])
  refine own_go (fun t k => XS.imul X15.here hx rfl (hb hby d5_22) rfl k) ?_
  show own_G p e below _ T15 (mkF m 23 #[.val (.ref a1), .val (.int (own_acc W 14)), .val (.int (14 : Int32))] [(.int (((W 14) - (48 : Int32)) * (7 : Int32))), (.int (own_acc W 14))])
  refine own_go (fun t k => XS.iadd X15.here hx rfl (hb hby d5_23) rfl k) ?_
  show own_G p e below _ T15 (mkF m 24 #[.val (.ref a1), .val (.int (own_acc W 14)), .val (.int (14 : Int32))] [(.int (own_acc W 15))])
  refine own_go (fun t k => XS.istoreN X15.here hx rfl (hb hby d5_24) rfl (l' := #[.val (.ref a1), .val (.int (own_acc W 15)), .val (.int (14 : Int32))]) rfl k) ?_
  show own_G p e below _ T15 (mkF m 25 #[.val (.ref a1), .val (.int (own_acc W 15)), .val (.int (14 : Int32))] [])
  refine own_go (fun t k => XS.iinc X15.here hx rfl (hb hby d5_25) rfl (l' := #[.val (.ref a1), .val (.int (own_acc W 15)), .val (.int (15 : Int32))]) rfl k) ?_
  show own_G p e below _ T15 (mkF m 28 #[.val (.ref a1), .val (.int (own_acc W 15)), .val (.int (15 : Int32))] [])
  refine own_go (fun t k => XS.goto X15.here hx rfl (pc0 := 28) (pc' := 4) rfl (hb hby d5_28) (by decide) (by decide) k) ?_
  show own_G p e below _ T15 (mkF m 4 #[.val (.ref a1), .val (.int (own_acc W 15)), .val (.int (15 : Int32))] [])
  refine own_go (fun t k => XS.iloadN X15.here hx rfl (hb hby d5_4) rfl k) ?_
  show own_G p e below _ T15 (mkF m 5 #[.val (.ref a1), .val (.int (own_acc W 15)), .val (.int (15 : Int32))] [(.int (15 : Int32))])
  refine own_go (fun t k => XS.bipush X15.here hx rfl (hb hby d5_5) k) ?_
  show own_G p e below _ T15 (mkF m 7 #[.val (.ref a1), .val (.int (own_acc W 15)), .val (.int (15 : Int32))] [(.int (44 : Int32)), (.int (15 : Int32))])
  refine own_go (fun t k => XS.icmpNo X15.here hx rfl (hb hby d5_7) rfl (by decide) k) ?_
  show own_G p e below _ T15 (mkF m 10 #[.val (.ref a1), .val (.int (own_acc W 15)), .val (.int (15 : Int32))] [])
  refine own_go (fun t k => XS.iloadN X15.here hx rfl (hb hby d5_10) rfl k) ?_
  show own_G p e below _ T15 (mkF m 11 #[.val (.ref a1), .val (.int (own_acc W 15)), .val (.int (15 : Int32))] [(.int (own_acc W 15))])
  refine own_go (fun t k => XS.aloadN X15.here hx rfl (hb hby d5_11) rfl rfl k) ?_
  show own_G p e below _ T15 (mkF m 12 #[.val (.ref a1), .val (.int (own_acc W 15)), .val (.int (15 : Int32))] [(.ref a1), (.int (own_acc W 15))])
  refine own_go (fun t k => XS.iloadN X15.here hx rfl (hb hby d5_12) rfl k) ?_
  show own_G p e below _ T15 (mkF m 13 #[.val (.ref a1), .val (.int (own_acc W 15)), .val (.int (15 : Int32))] [(.int (15 : Int32)), (.ref a1), (.int (own_acc W 15))])
  refine own_go (X15.caload hx (j := (15 : Int32)) (v := .int (W 15)) (own_cellAt e15 Ar) (State.isArrayOf_alike hZ.alike Ar.2.1) Ar.2.2 (own_in hsz (by decide)) (hat 15 (by decide)) (g := (mkF m 13 #[.val (.ref a1), .val (.int (own_acc W 15)), .val (.int (15 : Int32))] [(.int (15 : Int32)), (.ref a1), (.int (own_acc W 15))])) rfl rfl (hb hby d5_13)) ?_
  show own_G p e below _ T15 (mkF m 14 #[.val (.ref a1), .val (.int (own_acc W 15)), .val (.int (15 : Int32))] [(.int (W 15)), (.int (own_acc W 15))])
  refine own_go (fun t k => XS.bipush X15.here hx rfl (hb hby d5_14) k) ?_
  show own_G p e below _ T15 (mkF m 16 #[.val (.ref a1), .val (.int (own_acc W 15)), .val (.int (15 : Int32))] [(.int (48 : Int32)), (.int (W 15)), (.int (own_acc W 15))])
  refine own_go (fun t k => XS.isub X15.here hx rfl (hb hby d5_16) rfl k) ?_
  show own_G p e below _ T15 (mkF m 17 #[.val (.ref a1), .val (.int (own_acc W 15)), .val (.int (15 : Int32))] [(.int ((W 15) - (48 : Int32))), (.int (own_acc W 15))])
  obtain ⟨T16, X16, e16, st16⟩ := getS X15 hx hZ hown (host := "") (hw _ (List.mem_of_getElem? (i := 20) rfl)) Via.refl e15 S_GENERAL_DIGIT_WEIGHTS (g := (mkF m 17 #[.val (.ref a1), .val (.int (own_acc W 15)), .val (.int (15 : Int32))] [(.int ((W 15) - (48 : Int32))), (.int (own_acc W 15))])) rfl (hb hby d5_17)
  refine own_go st16 ?_
  show own_G p e below _ T16 (mkF m 20 #[.val (.ref a1), .val (.int (own_acc W 15)), .val (.int (15 : Int32))] [(.ref a_GENERAL_DIGIT_WEIGHTS), (.int ((W 15) - (48 : Int32))), (.int (own_acc W 15))])
  refine own_go (fun t k => XS.iloadN X16.here hx rfl (hb hby d5_20) rfl k) ?_
  show own_G p e below _ T16 (mkF m 21 #[.val (.ref a1), .val (.int (own_acc W 15)), .val (.int (15 : Int32))] [(.int (15 : Int32)), (.ref a_GENERAL_DIGIT_WEIGHTS), (.int ((W 15) - (48 : Int32))), (.int (own_acc W 15))])
  refine own_go (X16.iaload hx (j := (15 : Int32)) (v := (.int (6 : Int32))) (own_cellAt e16 A_GENERAL_DIGIT_WEIGHTS) (State.isArrayOf_alike hZ.alike A_GENERAL_DIGIT_WEIGHTS.2.1) A_GENERAL_DIGIT_WEIGHTS.2.2 (own_in Z_GENERAL_DIGIT_WEIGHTS (by decide)) V_GENERAL_DIGIT_WEIGHTS_15 (g := (mkF m 21 #[.val (.ref a1), .val (.int (own_acc W 15)), .val (.int (15 : Int32))] [(.int (15 : Int32)), (.ref a_GENERAL_DIGIT_WEIGHTS), (.int ((W 15) - (48 : Int32))), (.int (own_acc W 15))])) rfl rfl (hb hby d5_21)) ?_
  show own_G p e below _ T16 (mkF m 22 #[.val (.ref a1), .val (.int (own_acc W 15)), .val (.int (15 : Int32))] [(.int (6 : Int32)), (.int ((W 15) - (48 : Int32))), (.int (own_acc W 15))])
  refine own_go (fun t k => XS.imul X16.here hx rfl (hb hby d5_22) rfl k) ?_
  show own_G p e below _ T16 (mkF m 23 #[.val (.ref a1), .val (.int (own_acc W 15)), .val (.int (15 : Int32))] [(.int (((W 15) - (48 : Int32)) * (6 : Int32))), (.int (own_acc W 15))])
  refine own_go (fun t k => XS.iadd X16.here hx rfl (hb hby d5_23) rfl k) ?_
  show own_G p e below _ T16 (mkF m 24 #[.val (.ref a1), .val (.int (own_acc W 15)), .val (.int (15 : Int32))] [(.int (own_acc W 16))])
  refine own_go (fun t k => XS.istoreN X16.here hx rfl (hb hby d5_24) rfl (l' := #[.val (.ref a1), .val (.int (own_acc W 16)), .val (.int (15 : Int32))]) rfl k) ?_
  show own_G p e below _ T16 (mkF m 25 #[.val (.ref a1), .val (.int (own_acc W 16)), .val (.int (15 : Int32))] [])
  refine own_go (fun t k => XS.iinc X16.here hx rfl (hb hby d5_25) rfl (l' := #[.val (.ref a1), .val (.int (own_acc W 16)), .val (.int (16 : Int32))]) rfl k) ?_
  show own_G p e below _ T16 (mkF m 28 #[.val (.ref a1), .val (.int (own_acc W 16)), .val (.int (16 : Int32))] [])
  refine own_go (fun t k => XS.goto X16.here hx rfl (pc0 := 28) (pc' := 4) rfl (hb hby d5_28) (by decide) (by decide) k) ?_
  show own_G p e below _ T16 (mkF m 4 #[.val (.ref a1), .val (.int (own_acc W 16)), .val (.int (16 : Int32))] [])
  refine own_go (fun t k => XS.iloadN X16.here hx rfl (hb hby d5_4) rfl k) ?_
  show own_G p e below _ T16 (mkF m 5 #[.val (.ref a1), .val (.int (own_acc W 16)), .val (.int (16 : Int32))] [(.int (16 : Int32))])
  refine own_go (fun t k => XS.bipush X16.here hx rfl (hb hby d5_5) k) ?_
  show own_G p e below _ T16 (mkF m 7 #[.val (.ref a1), .val (.int (own_acc W 16)), .val (.int (16 : Int32))] [(.int (44 : Int32)), (.int (16 : Int32))])
  refine own_go (fun t k => XS.icmpNo X16.here hx rfl (hb hby d5_7) rfl (by decide) k) ?_
  show own_G p e below _ T16 (mkF m 10 #[.val (.ref a1), .val (.int (own_acc W 16)), .val (.int (16 : Int32))] [])
  refine own_go (fun t k => XS.iloadN X16.here hx rfl (hb hby d5_10) rfl k) ?_
  show own_G p e below _ T16 (mkF m 11 #[.val (.ref a1), .val (.int (own_acc W 16)), .val (.int (16 : Int32))] [(.int (own_acc W 16))])
  refine own_go (fun t k => XS.aloadN X16.here hx rfl (hb hby d5_11) rfl rfl k) ?_
  show own_G p e below _ T16 (mkF m 12 #[.val (.ref a1), .val (.int (own_acc W 16)), .val (.int (16 : Int32))] [(.ref a1), (.int (own_acc W 16))])
  refine own_go (fun t k => XS.iloadN X16.here hx rfl (hb hby d5_12) rfl k) ?_
  show own_G p e below _ T16 (mkF m 13 #[.val (.ref a1), .val (.int (own_acc W 16)), .val (.int (16 : Int32))] [(.int (16 : Int32)), (.ref a1), (.int (own_acc W 16))])
  refine own_go (X16.caload hx (j := (16 : Int32)) (v := .int (W 16)) (own_cellAt e16 Ar) (State.isArrayOf_alike hZ.alike Ar.2.1) Ar.2.2 (own_in hsz (by decide)) (hat 16 (by decide)) (g := (mkF m 13 #[.val (.ref a1), .val (.int (own_acc W 16)), .val (.int (16 : Int32))] [(.int (16 : Int32)), (.ref a1), (.int (own_acc W 16))])) rfl rfl (hb hby d5_13)) ?_
  show own_G p e below _ T16 (mkF m 14 #[.val (.ref a1), .val (.int (own_acc W 16)), .val (.int (16 : Int32))] [(.int (W 16)), (.int (own_acc W 16))])
  refine own_go (fun t k => XS.bipush X16.here hx rfl (hb hby d5_14) k) ?_
  show own_G p e below _ T16 (mkF m 16 #[.val (.ref a1), .val (.int (own_acc W 16)), .val (.int (16 : Int32))] [(.int (48 : Int32)), (.int (W 16)), (.int (own_acc W 16))])
  refine own_go (fun t k => XS.isub X16.here hx rfl (hb hby d5_16) rfl k) ?_
  show own_G p e below _ T16 (mkF m 17 #[.val (.ref a1), .val (.int (own_acc W 16)), .val (.int (16 : Int32))] [(.int ((W 16) - (48 : Int32))), (.int (own_acc W 16))])
  obtain ⟨T17, X17, e17, st17⟩ := getS X16 hx hZ hown (host := "") (hw _ (List.mem_of_getElem? (i := 20) rfl)) Via.refl e16 S_GENERAL_DIGIT_WEIGHTS (g := (mkF m 17 #[.val (.ref a1), .val (.int (own_acc W 16)), .val (.int (16 : Int32))] [(.int ((W 16) - (48 : Int32))), (.int (own_acc W 16))])) rfl (hb hby d5_17)
  refine own_go st17 ?_
  show own_G p e below _ T17 (mkF m 20 #[.val (.ref a1), .val (.int (own_acc W 16)), .val (.int (16 : Int32))] [(.ref a_GENERAL_DIGIT_WEIGHTS), (.int ((W 16) - (48 : Int32))), (.int (own_acc W 16))])
  refine own_go (fun t k => XS.iloadN X17.here hx rfl (hb hby d5_20) rfl k) ?_
  show own_G p e below _ T17 (mkF m 21 #[.val (.ref a1), .val (.int (own_acc W 16)), .val (.int (16 : Int32))] [(.int (16 : Int32)), (.ref a_GENERAL_DIGIT_WEIGHTS), (.int ((W 16) - (48 : Int32))), (.int (own_acc W 16))])
  refine own_go (X17.iaload hx (j := (16 : Int32)) (v := (.int (5 : Int32))) (own_cellAt e17 A_GENERAL_DIGIT_WEIGHTS) (State.isArrayOf_alike hZ.alike A_GENERAL_DIGIT_WEIGHTS.2.1) A_GENERAL_DIGIT_WEIGHTS.2.2 (own_in Z_GENERAL_DIGIT_WEIGHTS (by decide)) V_GENERAL_DIGIT_WEIGHTS_16 (g := (mkF m 21 #[.val (.ref a1), .val (.int (own_acc W 16)), .val (.int (16 : Int32))] [(.int (16 : Int32)), (.ref a_GENERAL_DIGIT_WEIGHTS), (.int ((W 16) - (48 : Int32))), (.int (own_acc W 16))])) rfl rfl (hb hby d5_21)) ?_
  show own_G p e below _ T17 (mkF m 22 #[.val (.ref a1), .val (.int (own_acc W 16)), .val (.int (16 : Int32))] [(.int (5 : Int32)), (.int ((W 16) - (48 : Int32))), (.int (own_acc W 16))])
  refine own_go (fun t k => XS.imul X17.here hx rfl (hb hby d5_22) rfl k) ?_
  show own_G p e below _ T17 (mkF m 23 #[.val (.ref a1), .val (.int (own_acc W 16)), .val (.int (16 : Int32))] [(.int (((W 16) - (48 : Int32)) * (5 : Int32))), (.int (own_acc W 16))])
  refine own_go (fun t k => XS.iadd X17.here hx rfl (hb hby d5_23) rfl k) ?_
  show own_G p e below _ T17 (mkF m 24 #[.val (.ref a1), .val (.int (own_acc W 16)), .val (.int (16 : Int32))] [(.int (own_acc W 17))])
  refine own_go (fun t k => XS.istoreN X17.here hx rfl (hb hby d5_24) rfl (l' := #[.val (.ref a1), .val (.int (own_acc W 17)), .val (.int (16 : Int32))]) rfl k) ?_
  show own_G p e below _ T17 (mkF m 25 #[.val (.ref a1), .val (.int (own_acc W 17)), .val (.int (16 : Int32))] [])
  refine own_go (fun t k => XS.iinc X17.here hx rfl (hb hby d5_25) rfl (l' := #[.val (.ref a1), .val (.int (own_acc W 17)), .val (.int (17 : Int32))]) rfl k) ?_
  show own_G p e below _ T17 (mkF m 28 #[.val (.ref a1), .val (.int (own_acc W 17)), .val (.int (17 : Int32))] [])
  refine own_go (fun t k => XS.goto X17.here hx rfl (pc0 := 28) (pc' := 4) rfl (hb hby d5_28) (by decide) (by decide) k) ?_
  show own_G p e below _ T17 (mkF m 4 #[.val (.ref a1), .val (.int (own_acc W 17)), .val (.int (17 : Int32))] [])
  refine own_go (fun t k => XS.iloadN X17.here hx rfl (hb hby d5_4) rfl k) ?_
  show own_G p e below _ T17 (mkF m 5 #[.val (.ref a1), .val (.int (own_acc W 17)), .val (.int (17 : Int32))] [(.int (17 : Int32))])
  refine own_go (fun t k => XS.bipush X17.here hx rfl (hb hby d5_5) k) ?_
  show own_G p e below _ T17 (mkF m 7 #[.val (.ref a1), .val (.int (own_acc W 17)), .val (.int (17 : Int32))] [(.int (44 : Int32)), (.int (17 : Int32))])
  refine own_go (fun t k => XS.icmpNo X17.here hx rfl (hb hby d5_7) rfl (by decide) k) ?_
  show own_G p e below _ T17 (mkF m 10 #[.val (.ref a1), .val (.int (own_acc W 17)), .val (.int (17 : Int32))] [])
  refine own_go (fun t k => XS.iloadN X17.here hx rfl (hb hby d5_10) rfl k) ?_
  show own_G p e below _ T17 (mkF m 11 #[.val (.ref a1), .val (.int (own_acc W 17)), .val (.int (17 : Int32))] [(.int (own_acc W 17))])
  refine own_go (fun t k => XS.aloadN X17.here hx rfl (hb hby d5_11) rfl rfl k) ?_
  show own_G p e below _ T17 (mkF m 12 #[.val (.ref a1), .val (.int (own_acc W 17)), .val (.int (17 : Int32))] [(.ref a1), (.int (own_acc W 17))])
  refine own_go (fun t k => XS.iloadN X17.here hx rfl (hb hby d5_12) rfl k) ?_
  show own_G p e below _ T17 (mkF m 13 #[.val (.ref a1), .val (.int (own_acc W 17)), .val (.int (17 : Int32))] [(.int (17 : Int32)), (.ref a1), (.int (own_acc W 17))])
  refine own_go (X17.caload hx (j := (17 : Int32)) (v := .int (W 17)) (own_cellAt e17 Ar) (State.isArrayOf_alike hZ.alike Ar.2.1) Ar.2.2 (own_in hsz (by decide)) (hat 17 (by decide)) (g := (mkF m 13 #[.val (.ref a1), .val (.int (own_acc W 17)), .val (.int (17 : Int32))] [(.int (17 : Int32)), (.ref a1), (.int (own_acc W 17))])) rfl rfl (hb hby d5_13)) ?_
  show own_G p e below _ T17 (mkF m 14 #[.val (.ref a1), .val (.int (own_acc W 17)), .val (.int (17 : Int32))] [(.int (W 17)), (.int (own_acc W 17))])
  refine own_go (fun t k => XS.bipush X17.here hx rfl (hb hby d5_14) k) ?_
  show own_G p e below _ T17 (mkF m 16 #[.val (.ref a1), .val (.int (own_acc W 17)), .val (.int (17 : Int32))] [(.int (48 : Int32)), (.int (W 17)), (.int (own_acc W 17))])
  refine own_go (fun t k => XS.isub X17.here hx rfl (hb hby d5_16) rfl k) ?_
  show own_G p e below _ T17 (mkF m 17 #[.val (.ref a1), .val (.int (own_acc W 17)), .val (.int (17 : Int32))] [(.int ((W 17) - (48 : Int32))), (.int (own_acc W 17))])
  obtain ⟨T18, X18, e18, st18⟩ := getS X17 hx hZ hown (host := "") (hw _ (List.mem_of_getElem? (i := 20) rfl)) Via.refl e17 S_GENERAL_DIGIT_WEIGHTS (g := (mkF m 17 #[.val (.ref a1), .val (.int (own_acc W 17)), .val (.int (17 : Int32))] [(.int ((W 17) - (48 : Int32))), (.int (own_acc W 17))])) rfl (hb hby d5_17)
  refine own_go st18 ?_
  show own_G p e below _ T18 (mkF m 20 #[.val (.ref a1), .val (.int (own_acc W 17)), .val (.int (17 : Int32))] [(.ref a_GENERAL_DIGIT_WEIGHTS), (.int ((W 17) - (48 : Int32))), (.int (own_acc W 17))])
  refine own_go (fun t k => XS.iloadN X18.here hx rfl (hb hby d5_20) rfl k) ?_
  show own_G p e below _ T18 (mkF m 21 #[.val (.ref a1), .val (.int (own_acc W 17)), .val (.int (17 : Int32))] [(.int (17 : Int32)), (.ref a_GENERAL_DIGIT_WEIGHTS), (.int ((W 17) - (48 : Int32))), (.int (own_acc W 17))])
  refine own_go (X18.iaload hx (j := (17 : Int32)) (v := (.int (4 : Int32))) (own_cellAt e18 A_GENERAL_DIGIT_WEIGHTS) (State.isArrayOf_alike hZ.alike A_GENERAL_DIGIT_WEIGHTS.2.1) A_GENERAL_DIGIT_WEIGHTS.2.2 (own_in Z_GENERAL_DIGIT_WEIGHTS (by decide)) V_GENERAL_DIGIT_WEIGHTS_17 (g := (mkF m 21 #[.val (.ref a1), .val (.int (own_acc W 17)), .val (.int (17 : Int32))] [(.int (17 : Int32)), (.ref a_GENERAL_DIGIT_WEIGHTS), (.int ((W 17) - (48 : Int32))), (.int (own_acc W 17))])) rfl rfl (hb hby d5_21)) ?_
  show own_G p e below _ T18 (mkF m 22 #[.val (.ref a1), .val (.int (own_acc W 17)), .val (.int (17 : Int32))] [(.int (4 : Int32)), (.int ((W 17) - (48 : Int32))), (.int (own_acc W 17))])
  refine own_go (fun t k => XS.imul X18.here hx rfl (hb hby d5_22) rfl k) ?_
  show own_G p e below _ T18 (mkF m 23 #[.val (.ref a1), .val (.int (own_acc W 17)), .val (.int (17 : Int32))] [(.int (((W 17) - (48 : Int32)) * (4 : Int32))), (.int (own_acc W 17))])
  refine own_go (fun t k => XS.iadd X18.here hx rfl (hb hby d5_23) rfl k) ?_
  show own_G p e below _ T18 (mkF m 24 #[.val (.ref a1), .val (.int (own_acc W 17)), .val (.int (17 : Int32))] [(.int (own_acc W 18))])
  refine own_go (fun t k => XS.istoreN X18.here hx rfl (hb hby d5_24) rfl (l' := #[.val (.ref a1), .val (.int (own_acc W 18)), .val (.int (17 : Int32))]) rfl k) ?_
  show own_G p e below _ T18 (mkF m 25 #[.val (.ref a1), .val (.int (own_acc W 18)), .val (.int (17 : Int32))] [])
  refine own_go (fun t k => XS.iinc X18.here hx rfl (hb hby d5_25) rfl (l' := #[.val (.ref a1), .val (.int (own_acc W 18)), .val (.int (18 : Int32))]) rfl k) ?_
  show own_G p e below _ T18 (mkF m 28 #[.val (.ref a1), .val (.int (own_acc W 18)), .val (.int (18 : Int32))] [])
  refine own_go (fun t k => XS.goto X18.here hx rfl (pc0 := 28) (pc' := 4) rfl (hb hby d5_28) (by decide) (by decide) k) ?_
  show own_G p e below _ T18 (mkF m 4 #[.val (.ref a1), .val (.int (own_acc W 18)), .val (.int (18 : Int32))] [])
  refine own_go (fun t k => XS.iloadN X18.here hx rfl (hb hby d5_4) rfl k) ?_
  show own_G p e below _ T18 (mkF m 5 #[.val (.ref a1), .val (.int (own_acc W 18)), .val (.int (18 : Int32))] [(.int (18 : Int32))])
  refine own_go (fun t k => XS.bipush X18.here hx rfl (hb hby d5_5) k) ?_
  show own_G p e below _ T18 (mkF m 7 #[.val (.ref a1), .val (.int (own_acc W 18)), .val (.int (18 : Int32))] [(.int (44 : Int32)), (.int (18 : Int32))])
  refine own_go (fun t k => XS.icmpNo X18.here hx rfl (hb hby d5_7) rfl (by decide) k) ?_
  show own_G p e below _ T18 (mkF m 10 #[.val (.ref a1), .val (.int (own_acc W 18)), .val (.int (18 : Int32))] [])
  refine own_go (fun t k => XS.iloadN X18.here hx rfl (hb hby d5_10) rfl k) ?_
  show own_G p e below _ T18 (mkF m 11 #[.val (.ref a1), .val (.int (own_acc W 18)), .val (.int (18 : Int32))] [(.int (own_acc W 18))])
  refine own_go (fun t k => XS.aloadN X18.here hx rfl (hb hby d5_11) rfl rfl k) ?_
  show own_G p e below _ T18 (mkF m 12 #[.val (.ref a1), .val (.int (own_acc W 18)), .val (.int (18 : Int32))] [(.ref a1), (.int (own_acc W 18))])
  refine own_go (fun t k => XS.iloadN X18.here hx rfl (hb hby d5_12) rfl k) ?_
  show own_G p e below _ T18 (mkF m 13 #[.val (.ref a1), .val (.int (own_acc W 18)), .val (.int (18 : Int32))] [(.int (18 : Int32)), (.ref a1), (.int (own_acc W 18))])
  refine own_go (X18.caload hx (j := (18 : Int32)) (v := .int (W 18)) (own_cellAt e18 Ar) (State.isArrayOf_alike hZ.alike Ar.2.1) Ar.2.2 (own_in hsz (by decide)) (hat 18 (by decide)) (g := (mkF m 13 #[.val (.ref a1), .val (.int (own_acc W 18)), .val (.int (18 : Int32))] [(.int (18 : Int32)), (.ref a1), (.int (own_acc W 18))])) rfl rfl (hb hby d5_13)) ?_
  show own_G p e below _ T18 (mkF m 14 #[.val (.ref a1), .val (.int (own_acc W 18)), .val (.int (18 : Int32))] [(.int (W 18)), (.int (own_acc W 18))])
  refine own_go (fun t k => XS.bipush X18.here hx rfl (hb hby d5_14) k) ?_
  show own_G p e below _ T18 (mkF m 16 #[.val (.ref a1), .val (.int (own_acc W 18)), .val (.int (18 : Int32))] [(.int (48 : Int32)), (.int (W 18)), (.int (own_acc W 18))])
  refine own_go (fun t k => XS.isub X18.here hx rfl (hb hby d5_16) rfl k) ?_
  show own_G p e below _ T18 (mkF m 17 #[.val (.ref a1), .val (.int (own_acc W 18)), .val (.int (18 : Int32))] [(.int ((W 18) - (48 : Int32))), (.int (own_acc W 18))])
  obtain ⟨T19, X19, e19, st19⟩ := getS X18 hx hZ hown (host := "") (hw _ (List.mem_of_getElem? (i := 20) rfl)) Via.refl e18 S_GENERAL_DIGIT_WEIGHTS (g := (mkF m 17 #[.val (.ref a1), .val (.int (own_acc W 18)), .val (.int (18 : Int32))] [(.int ((W 18) - (48 : Int32))), (.int (own_acc W 18))])) rfl (hb hby d5_17)
  refine own_go st19 ?_
  show own_G p e below _ T19 (mkF m 20 #[.val (.ref a1), .val (.int (own_acc W 18)), .val (.int (18 : Int32))] [(.ref a_GENERAL_DIGIT_WEIGHTS), (.int ((W 18) - (48 : Int32))), (.int (own_acc W 18))])
  refine own_go (fun t k => XS.iloadN X19.here hx rfl (hb hby d5_20) rfl k) ?_
  show own_G p e below _ T19 (mkF m 21 #[.val (.ref a1), .val (.int (own_acc W 18)), .val (.int (18 : Int32))] [(.int (18 : Int32)), (.ref a_GENERAL_DIGIT_WEIGHTS), (.int ((W 18) - (48 : Int32))), (.int (own_acc W 18))])
  refine own_go (X19.iaload hx (j := (18 : Int32)) (v := (.int (3 : Int32))) (own_cellAt e19 A_GENERAL_DIGIT_WEIGHTS) (State.isArrayOf_alike hZ.alike A_GENERAL_DIGIT_WEIGHTS.2.1) A_GENERAL_DIGIT_WEIGHTS.2.2 (own_in Z_GENERAL_DIGIT_WEIGHTS (by decide)) V_GENERAL_DIGIT_WEIGHTS_18 (g := (mkF m 21 #[.val (.ref a1), .val (.int (own_acc W 18)), .val (.int (18 : Int32))] [(.int (18 : Int32)), (.ref a_GENERAL_DIGIT_WEIGHTS), (.int ((W 18) - (48 : Int32))), (.int (own_acc W 18))])) rfl rfl (hb hby d5_21)) ?_
  show own_G p e below _ T19 (mkF m 22 #[.val (.ref a1), .val (.int (own_acc W 18)), .val (.int (18 : Int32))] [(.int (3 : Int32)), (.int ((W 18) - (48 : Int32))), (.int (own_acc W 18))])
  refine own_go (fun t k => XS.imul X19.here hx rfl (hb hby d5_22) rfl k) ?_
  show own_G p e below _ T19 (mkF m 23 #[.val (.ref a1), .val (.int (own_acc W 18)), .val (.int (18 : Int32))] [(.int (((W 18) - (48 : Int32)) * (3 : Int32))), (.int (own_acc W 18))])
  refine own_go (fun t k => XS.iadd X19.here hx rfl (hb hby d5_23) rfl k) ?_
  show own_G p e below _ T19 (mkF m 24 #[.val (.ref a1), .val (.int (own_acc W 18)), .val (.int (18 : Int32))] [(.int (own_acc W 19))])
  refine own_go (fun t k => XS.istoreN X19.here hx rfl (hb hby d5_24) rfl (l' := #[.val (.ref a1), .val (.int (own_acc W 19)), .val (.int (18 : Int32))]) rfl k) ?_
  show own_G p e below _ T19 (mkF m 25 #[.val (.ref a1), .val (.int (own_acc W 19)), .val (.int (18 : Int32))] [])
  refine own_go (fun t k => XS.iinc X19.here hx rfl (hb hby d5_25) rfl (l' := #[.val (.ref a1), .val (.int (own_acc W 19)), .val (.int (19 : Int32))]) rfl k) ?_
  show own_G p e below _ T19 (mkF m 28 #[.val (.ref a1), .val (.int (own_acc W 19)), .val (.int (19 : Int32))] [])
  refine own_go (fun t k => XS.goto X19.here hx rfl (pc0 := 28) (pc' := 4) rfl (hb hby d5_28) (by decide) (by decide) k) ?_
  show own_G p e below _ T19 (mkF m 4 #[.val (.ref a1), .val (.int (own_acc W 19)), .val (.int (19 : Int32))] [])
  refine own_go (fun t k => XS.iloadN X19.here hx rfl (hb hby d5_4) rfl k) ?_
  show own_G p e below _ T19 (mkF m 5 #[.val (.ref a1), .val (.int (own_acc W 19)), .val (.int (19 : Int32))] [(.int (19 : Int32))])
  refine own_go (fun t k => XS.bipush X19.here hx rfl (hb hby d5_5) k) ?_
  show own_G p e below _ T19 (mkF m 7 #[.val (.ref a1), .val (.int (own_acc W 19)), .val (.int (19 : Int32))] [(.int (44 : Int32)), (.int (19 : Int32))])
  refine own_go (fun t k => XS.icmpNo X19.here hx rfl (hb hby d5_7) rfl (by decide) k) ?_
  show own_G p e below _ T19 (mkF m 10 #[.val (.ref a1), .val (.int (own_acc W 19)), .val (.int (19 : Int32))] [])
  refine own_go (fun t k => XS.iloadN X19.here hx rfl (hb hby d5_10) rfl k) ?_
  show own_G p e below _ T19 (mkF m 11 #[.val (.ref a1), .val (.int (own_acc W 19)), .val (.int (19 : Int32))] [(.int (own_acc W 19))])
  refine own_go (fun t k => XS.aloadN X19.here hx rfl (hb hby d5_11) rfl rfl k) ?_
  show own_G p e below _ T19 (mkF m 12 #[.val (.ref a1), .val (.int (own_acc W 19)), .val (.int (19 : Int32))] [(.ref a1), (.int (own_acc W 19))])
  refine own_go (fun t k => XS.iloadN X19.here hx rfl (hb hby d5_12) rfl k) ?_
  show own_G p e below _ T19 (mkF m 13 #[.val (.ref a1), .val (.int (own_acc W 19)), .val (.int (19 : Int32))] [(.int (19 : Int32)), (.ref a1), (.int (own_acc W 19))])
  refine own_go (X19.caload hx (j := (19 : Int32)) (v := .int (W 19)) (own_cellAt e19 Ar) (State.isArrayOf_alike hZ.alike Ar.2.1) Ar.2.2 (own_in hsz (by decide)) (hat 19 (by decide)) (g := (mkF m 13 #[.val (.ref a1), .val (.int (own_acc W 19)), .val (.int (19 : Int32))] [(.int (19 : Int32)), (.ref a1), (.int (own_acc W 19))])) rfl rfl (hb hby d5_13)) ?_
  show own_G p e below _ T19 (mkF m 14 #[.val (.ref a1), .val (.int (own_acc W 19)), .val (.int (19 : Int32))] [(.int (W 19)), (.int (own_acc W 19))])
  refine own_go (fun t k => XS.bipush X19.here hx rfl (hb hby d5_14) k) ?_
  show own_G p e below _ T19 (mkF m 16 #[.val (.ref a1), .val (.int (own_acc W 19)), .val (.int (19 : Int32))] [(.int (48 : Int32)), (.int (W 19)), (.int (own_acc W 19))])
  refine own_go (fun t k => XS.isub X19.here hx rfl (hb hby d5_16) rfl k) ?_
  show own_G p e below _ T19 (mkF m 17 #[.val (.ref a1), .val (.int (own_acc W 19)), .val (.int (19 : Int32))] [(.int ((W 19) - (48 : Int32))), (.int (own_acc W 19))])
  obtain ⟨T20, X20, e20, st20⟩ := getS X19 hx hZ hown (host := "") (hw _ (List.mem_of_getElem? (i := 20) rfl)) Via.refl e19 S_GENERAL_DIGIT_WEIGHTS (g := (mkF m 17 #[.val (.ref a1), .val (.int (own_acc W 19)), .val (.int (19 : Int32))] [(.int ((W 19) - (48 : Int32))), (.int (own_acc W 19))])) rfl (hb hby d5_17)
  refine own_go st20 ?_
  show own_G p e below _ T20 (mkF m 20 #[.val (.ref a1), .val (.int (own_acc W 19)), .val (.int (19 : Int32))] [(.ref a_GENERAL_DIGIT_WEIGHTS), (.int ((W 19) - (48 : Int32))), (.int (own_acc W 19))])
  refine own_go (fun t k => XS.iloadN X20.here hx rfl (hb hby d5_20) rfl k) ?_
  show own_G p e below _ T20 (mkF m 21 #[.val (.ref a1), .val (.int (own_acc W 19)), .val (.int (19 : Int32))] [(.int (19 : Int32)), (.ref a_GENERAL_DIGIT_WEIGHTS), (.int ((W 19) - (48 : Int32))), (.int (own_acc W 19))])
  refine own_go (X20.iaload hx (j := (19 : Int32)) (v := (.int (2 : Int32))) (own_cellAt e20 A_GENERAL_DIGIT_WEIGHTS) (State.isArrayOf_alike hZ.alike A_GENERAL_DIGIT_WEIGHTS.2.1) A_GENERAL_DIGIT_WEIGHTS.2.2 (own_in Z_GENERAL_DIGIT_WEIGHTS (by decide)) V_GENERAL_DIGIT_WEIGHTS_19 (g := (mkF m 21 #[.val (.ref a1), .val (.int (own_acc W 19)), .val (.int (19 : Int32))] [(.int (19 : Int32)), (.ref a_GENERAL_DIGIT_WEIGHTS), (.int ((W 19) - (48 : Int32))), (.int (own_acc W 19))])) rfl rfl (hb hby d5_21)) ?_
  show own_G p e below _ T20 (mkF m 22 #[.val (.ref a1), .val (.int (own_acc W 19)), .val (.int (19 : Int32))] [(.int (2 : Int32)), (.int ((W 19) - (48 : Int32))), (.int (own_acc W 19))])
  refine own_go (fun t k => XS.imul X20.here hx rfl (hb hby d5_22) rfl k) ?_
  show own_G p e below _ T20 (mkF m 23 #[.val (.ref a1), .val (.int (own_acc W 19)), .val (.int (19 : Int32))] [(.int (((W 19) - (48 : Int32)) * (2 : Int32))), (.int (own_acc W 19))])
  refine own_go (fun t k => XS.iadd X20.here hx rfl (hb hby d5_23) rfl k) ?_
  show own_G p e below _ T20 (mkF m 24 #[.val (.ref a1), .val (.int (own_acc W 19)), .val (.int (19 : Int32))] [(.int (own_acc W 20))])
  refine own_go (fun t k => XS.istoreN X20.here hx rfl (hb hby d5_24) rfl (l' := #[.val (.ref a1), .val (.int (own_acc W 20)), .val (.int (19 : Int32))]) rfl k) ?_
  show own_G p e below _ T20 (mkF m 25 #[.val (.ref a1), .val (.int (own_acc W 20)), .val (.int (19 : Int32))] [])
  refine own_go (fun t k => XS.iinc X20.here hx rfl (hb hby d5_25) rfl (l' := #[.val (.ref a1), .val (.int (own_acc W 20)), .val (.int (20 : Int32))]) rfl k) ?_
  show own_G p e below _ T20 (mkF m 28 #[.val (.ref a1), .val (.int (own_acc W 20)), .val (.int (20 : Int32))] [])
  refine own_go (fun t k => XS.goto X20.here hx rfl (pc0 := 28) (pc' := 4) rfl (hb hby d5_28) (by decide) (by decide) k) ?_
  show own_G p e below _ T20 (mkF m 4 #[.val (.ref a1), .val (.int (own_acc W 20)), .val (.int (20 : Int32))] [])
  refine own_go (fun t k => XS.iloadN X20.here hx rfl (hb hby d5_4) rfl k) ?_
  show own_G p e below _ T20 (mkF m 5 #[.val (.ref a1), .val (.int (own_acc W 20)), .val (.int (20 : Int32))] [(.int (20 : Int32))])
  refine own_go (fun t k => XS.bipush X20.here hx rfl (hb hby d5_5) k) ?_
  show own_G p e below _ T20 (mkF m 7 #[.val (.ref a1), .val (.int (own_acc W 20)), .val (.int (20 : Int32))] [(.int (44 : Int32)), (.int (20 : Int32))])
  refine own_go (fun t k => XS.icmpNo X20.here hx rfl (hb hby d5_7) rfl (by decide) k) ?_
  show own_G p e below _ T20 (mkF m 10 #[.val (.ref a1), .val (.int (own_acc W 20)), .val (.int (20 : Int32))] [])
  refine own_go (fun t k => XS.iloadN X20.here hx rfl (hb hby d5_10) rfl k) ?_
  show own_G p e below _ T20 (mkF m 11 #[.val (.ref a1), .val (.int (own_acc W 20)), .val (.int (20 : Int32))] [(.int (own_acc W 20))])
  refine own_go (fun t k => XS.aloadN X20.here hx rfl (hb hby d5_11) rfl rfl k) ?_
  show own_G p e below _ T20 (mkF m 12 #[.val (.ref a1), .val (.int (own_acc W 20)), .val (.int (20 : Int32))] [(.ref a1), (.int (own_acc W 20))])
  refine own_go (fun t k => XS.iloadN X20.here hx rfl (hb hby d5_12) rfl k) ?_
  show own_G p e below _ T20 (mkF m 13 #[.val (.ref a1), .val (.int (own_acc W 20)), .val (.int (20 : Int32))] [(.int (20 : Int32)), (.ref a1), (.int (own_acc W 20))])
  refine own_go (X20.caload hx (j := (20 : Int32)) (v := .int (W 20)) (own_cellAt e20 Ar) (State.isArrayOf_alike hZ.alike Ar.2.1) Ar.2.2 (own_in hsz (by decide)) (hat 20 (by decide)) (g := (mkF m 13 #[.val (.ref a1), .val (.int (own_acc W 20)), .val (.int (20 : Int32))] [(.int (20 : Int32)), (.ref a1), (.int (own_acc W 20))])) rfl rfl (hb hby d5_13)) ?_
  show own_G p e below _ T20 (mkF m 14 #[.val (.ref a1), .val (.int (own_acc W 20)), .val (.int (20 : Int32))] [(.int (W 20)), (.int (own_acc W 20))])
  refine own_go (fun t k => XS.bipush X20.here hx rfl (hb hby d5_14) k) ?_
  show own_G p e below _ T20 (mkF m 16 #[.val (.ref a1), .val (.int (own_acc W 20)), .val (.int (20 : Int32))] [(.int (48 : Int32)), (.int (W 20)), (.int (own_acc W 20))])
  refine own_go (fun t k => XS.isub X20.here hx rfl (hb hby d5_16) rfl k) ?_
  show own_G p e below _ T20 (mkF m 17 #[.val (.ref a1), .val (.int (own_acc W 20)), .val (.int (20 : Int32))] [(.int ((W 20) - (48 : Int32))), (.int (own_acc W 20))])
  obtain ⟨T21, X21, e21, st21⟩ := getS X20 hx hZ hown (host := "") (hw _ (List.mem_of_getElem? (i := 20) rfl)) Via.refl e20 S_GENERAL_DIGIT_WEIGHTS (g := (mkF m 17 #[.val (.ref a1), .val (.int (own_acc W 20)), .val (.int (20 : Int32))] [(.int ((W 20) - (48 : Int32))), (.int (own_acc W 20))])) rfl (hb hby d5_17)
  refine own_go st21 ?_
  show own_G p e below _ T21 (mkF m 20 #[.val (.ref a1), .val (.int (own_acc W 20)), .val (.int (20 : Int32))] [(.ref a_GENERAL_DIGIT_WEIGHTS), (.int ((W 20) - (48 : Int32))), (.int (own_acc W 20))])
  refine own_go (fun t k => XS.iloadN X21.here hx rfl (hb hby d5_20) rfl k) ?_
  show own_G p e below _ T21 (mkF m 21 #[.val (.ref a1), .val (.int (own_acc W 20)), .val (.int (20 : Int32))] [(.int (20 : Int32)), (.ref a_GENERAL_DIGIT_WEIGHTS), (.int ((W 20) - (48 : Int32))), (.int (own_acc W 20))])
  refine own_go (X21.iaload hx (j := (20 : Int32)) (v := (.int (9 : Int32))) (own_cellAt e21 A_GENERAL_DIGIT_WEIGHTS) (State.isArrayOf_alike hZ.alike A_GENERAL_DIGIT_WEIGHTS.2.1) A_GENERAL_DIGIT_WEIGHTS.2.2 (own_in Z_GENERAL_DIGIT_WEIGHTS (by decide)) V_GENERAL_DIGIT_WEIGHTS_20 (g := (mkF m 21 #[.val (.ref a1), .val (.int (own_acc W 20)), .val (.int (20 : Int32))] [(.int (20 : Int32)), (.ref a_GENERAL_DIGIT_WEIGHTS), (.int ((W 20) - (48 : Int32))), (.int (own_acc W 20))])) rfl rfl (hb hby d5_21)) ?_
  show own_G p e below _ T21 (mkF m 22 #[.val (.ref a1), .val (.int (own_acc W 20)), .val (.int (20 : Int32))] [(.int (9 : Int32)), (.int ((W 20) - (48 : Int32))), (.int (own_acc W 20))])
  refine own_go (fun t k => XS.imul X21.here hx rfl (hb hby d5_22) rfl k) ?_
  show own_G p e below _ T21 (mkF m 23 #[.val (.ref a1), .val (.int (own_acc W 20)), .val (.int (20 : Int32))] [(.int (((W 20) - (48 : Int32)) * (9 : Int32))), (.int (own_acc W 20))])
  refine own_go (fun t k => XS.iadd X21.here hx rfl (hb hby d5_23) rfl k) ?_
  show own_G p e below _ T21 (mkF m 24 #[.val (.ref a1), .val (.int (own_acc W 20)), .val (.int (20 : Int32))] [(.int (own_acc W 21))])
  refine own_go (fun t k => XS.istoreN X21.here hx rfl (hb hby d5_24) rfl (l' := #[.val (.ref a1), .val (.int (own_acc W 21)), .val (.int (20 : Int32))]) rfl k) ?_
  show own_G p e below _ T21 (mkF m 25 #[.val (.ref a1), .val (.int (own_acc W 21)), .val (.int (20 : Int32))] [])
  refine own_go (fun t k => XS.iinc X21.here hx rfl (hb hby d5_25) rfl (l' := #[.val (.ref a1), .val (.int (own_acc W 21)), .val (.int (21 : Int32))]) rfl k) ?_
  show own_G p e below _ T21 (mkF m 28 #[.val (.ref a1), .val (.int (own_acc W 21)), .val (.int (21 : Int32))] [])
  refine own_go (fun t k => XS.goto X21.here hx rfl (pc0 := 28) (pc' := 4) rfl (hb hby d5_28) (by decide) (by decide) k) ?_
  show own_G p e below _ T21 (mkF m 4 #[.val (.ref a1), .val (.int (own_acc W 21)), .val (.int (21 : Int32))] [])
  refine own_go (fun t k => XS.iloadN X21.here hx rfl (hb hby d5_4) rfl k) ?_
  show own_G p e below _ T21 (mkF m 5 #[.val (.ref a1), .val (.int (own_acc W 21)), .val (.int (21 : Int32))] [(.int (21 : Int32))])
  refine own_go (fun t k => XS.bipush X21.here hx rfl (hb hby d5_5) k) ?_
  show own_G p e below _ T21 (mkF m 7 #[.val (.ref a1), .val (.int (own_acc W 21)), .val (.int (21 : Int32))] [(.int (44 : Int32)), (.int (21 : Int32))])
  refine own_go (fun t k => XS.icmpNo X21.here hx rfl (hb hby d5_7) rfl (by decide) k) ?_
  show own_G p e below _ T21 (mkF m 10 #[.val (.ref a1), .val (.int (own_acc W 21)), .val (.int (21 : Int32))] [])
  refine own_go (fun t k => XS.iloadN X21.here hx rfl (hb hby d5_10) rfl k) ?_
  show own_G p e below _ T21 (mkF m 11 #[.val (.ref a1), .val (.int (own_acc W 21)), .val (.int (21 : Int32))] [(.int (own_acc W 21))])
  refine own_go (fun t k => XS.aloadN X21.here hx rfl (hb hby d5_11) rfl rfl k) ?_
  show own_G p e below _ T21 (mkF m 12 #[.val (.ref a1), .val (.int (own_acc W 21)), .val (.int (21 : Int32))] [(.ref a1), (.int (own_acc W 21))])
  refine own_go (fun t k => XS.iloadN X21.here hx rfl (hb hby d5_12) rfl k) ?_
  show own_G p e below _ T21 (mkF m 13 #[.val (.ref a1), .val (.int (own_acc W 21)), .val (.int (21 : Int32))] [(.int (21 : Int32)), (.ref a1), (.int (own_acc W 21))])
  refine own_go (X21.caload hx (j := (21 : Int32)) (v := .int (W 21)) (own_cellAt e21 Ar) (State.isArrayOf_alike hZ.alike Ar.2.1) Ar.2.2 (own_in hsz (by decide)) (hat 21 (by decide)) (g := (mkF m 13 #[.val (.ref a1), .val (.int (own_acc W 21)), .val (.int (21 : Int32))] [(.int (21 : Int32)), (.ref a1), (.int (own_acc W 21))])) rfl rfl (hb hby d5_13)) ?_
  show own_G p e below _ T21 (mkF m 14 #[.val (.ref a1), .val (.int (own_acc W 21)), .val (.int (21 : Int32))] [(.int (W 21)), (.int (own_acc W 21))])
  refine own_go (fun t k => XS.bipush X21.here hx rfl (hb hby d5_14) k) ?_
  show own_G p e below _ T21 (mkF m 16 #[.val (.ref a1), .val (.int (own_acc W 21)), .val (.int (21 : Int32))] [(.int (48 : Int32)), (.int (W 21)), (.int (own_acc W 21))])
  refine own_go (fun t k => XS.isub X21.here hx rfl (hb hby d5_16) rfl k) ?_
  show own_G p e below _ T21 (mkF m 17 #[.val (.ref a1), .val (.int (own_acc W 21)), .val (.int (21 : Int32))] [(.int ((W 21) - (48 : Int32))), (.int (own_acc W 21))])
  obtain ⟨T22, X22, e22, st22⟩ := getS X21 hx hZ hown (host := "") (hw _ (List.mem_of_getElem? (i := 20) rfl)) Via.refl e21 S_GENERAL_DIGIT_WEIGHTS (g := (mkF m 17 #[.val (.ref a1), .val (.int (own_acc W 21)), .val (.int (21 : Int32))] [(.int ((W 21) - (48 : Int32))), (.int (own_acc W 21))])) rfl (hb hby d5_17)
  refine own_go st22 ?_
  show own_G p e below _ T22 (mkF m 20 #[.val (.ref a1), .val (.int (own_acc W 21)), .val (.int (21 : Int32))] [(.ref a_GENERAL_DIGIT_WEIGHTS), (.int ((W 21) - (48 : Int32))), (.int (own_acc W 21))])
  refine own_go (fun t k => XS.iloadN X22.here hx rfl (hb hby d5_20) rfl k) ?_
  show own_G p e below _ T22 (mkF m 21 #[.val (.ref a1), .val (.int (own_acc W 21)), .val (.int (21 : Int32))] [(.int (21 : Int32)), (.ref a_GENERAL_DIGIT_WEIGHTS), (.int ((W 21) - (48 : Int32))), (.int (own_acc W 21))])
  refine own_go (X22.iaload hx (j := (21 : Int32)) (v := (.int (8 : Int32))) (own_cellAt e22 A_GENERAL_DIGIT_WEIGHTS) (State.isArrayOf_alike hZ.alike A_GENERAL_DIGIT_WEIGHTS.2.1) A_GENERAL_DIGIT_WEIGHTS.2.2 (own_in Z_GENERAL_DIGIT_WEIGHTS (by decide)) V_GENERAL_DIGIT_WEIGHTS_21 (g := (mkF m 21 #[.val (.ref a1), .val (.int (own_acc W 21)), .val (.int (21 : Int32))] [(.int (21 : Int32)), (.ref a_GENERAL_DIGIT_WEIGHTS), (.int ((W 21) - (48 : Int32))), (.int (own_acc W 21))])) rfl rfl (hb hby d5_21)) ?_
  show own_G p e below _ T22 (mkF m 22 #[.val (.ref a1), .val (.int (own_acc W 21)), .val (.int (21 : Int32))] [(.int (8 : Int32)), (.int ((W 21) - (48 : Int32))), (.int (own_acc W 21))])
  refine own_go (fun t k => XS.imul X22.here hx rfl (hb hby d5_22) rfl k) ?_
  show own_G p e below _ T22 (mkF m 23 #[.val (.ref a1), .val (.int (own_acc W 21)), .val (.int (21 : Int32))] [(.int (((W 21) - (48 : Int32)) * (8 : Int32))), (.int (own_acc W 21))])
  refine own_go (fun t k => XS.iadd X22.here hx rfl (hb hby d5_23) rfl k) ?_
  show own_G p e below _ T22 (mkF m 24 #[.val (.ref a1), .val (.int (own_acc W 21)), .val (.int (21 : Int32))] [(.int (own_acc W 22))])
  refine own_go (fun t k => XS.istoreN X22.here hx rfl (hb hby d5_24) rfl (l' := #[.val (.ref a1), .val (.int (own_acc W 22)), .val (.int (21 : Int32))]) rfl k) ?_
  show own_G p e below _ T22 (mkF m 25 #[.val (.ref a1), .val (.int (own_acc W 22)), .val (.int (21 : Int32))] [])
  refine own_go (fun t k => XS.iinc X22.here hx rfl (hb hby d5_25) rfl (l' := #[.val (.ref a1), .val (.int (own_acc W 22)), .val (.int (22 : Int32))]) rfl k) ?_
  show own_G p e below _ T22 (mkF m 28 #[.val (.ref a1), .val (.int (own_acc W 22)), .val (.int (22 : Int32))] [])
  refine own_go (fun t k => XS.goto X22.here hx rfl (pc0 := 28) (pc' := 4) rfl (hb hby d5_28) (by decide) (by decide) k) ?_
  show own_G p e below _ T22 (mkF m 4 #[.val (.ref a1), .val (.int (own_acc W 22)), .val (.int (22 : Int32))] [])
  refine own_go (fun t k => XS.iloadN X22.here hx rfl (hb hby d5_4) rfl k) ?_
  show own_G p e below _ T22 (mkF m 5 #[.val (.ref a1), .val (.int (own_acc W 22)), .val (.int (22 : Int32))] [(.int (22 : Int32))])
  refine own_go (fun t k => XS.bipush X22.here hx rfl (hb hby d5_5) k) ?_
  show own_G p e below _ T22 (mkF m 7 #[.val (.ref a1), .val (.int (own_acc W 22)), .val (.int (22 : Int32))] [(.int (44 : Int32)), (.int (22 : Int32))])
  refine own_go (fun t k => XS.icmpNo X22.here hx rfl (hb hby d5_7) rfl (by decide) k) ?_
  show own_G p e below _ T22 (mkF m 10 #[.val (.ref a1), .val (.int (own_acc W 22)), .val (.int (22 : Int32))] [])
  refine own_go (fun t k => XS.iloadN X22.here hx rfl (hb hby d5_10) rfl k) ?_
  show own_G p e below _ T22 (mkF m 11 #[.val (.ref a1), .val (.int (own_acc W 22)), .val (.int (22 : Int32))] [(.int (own_acc W 22))])
  refine own_go (fun t k => XS.aloadN X22.here hx rfl (hb hby d5_11) rfl rfl k) ?_
  show own_G p e below _ T22 (mkF m 12 #[.val (.ref a1), .val (.int (own_acc W 22)), .val (.int (22 : Int32))] [(.ref a1), (.int (own_acc W 22))])
  refine own_go (fun t k => XS.iloadN X22.here hx rfl (hb hby d5_12) rfl k) ?_
  show own_G p e below _ T22 (mkF m 13 #[.val (.ref a1), .val (.int (own_acc W 22)), .val (.int (22 : Int32))] [(.int (22 : Int32)), (.ref a1), (.int (own_acc W 22))])
  refine own_go (X22.caload hx (j := (22 : Int32)) (v := .int (W 22)) (own_cellAt e22 Ar) (State.isArrayOf_alike hZ.alike Ar.2.1) Ar.2.2 (own_in hsz (by decide)) (hat 22 (by decide)) (g := (mkF m 13 #[.val (.ref a1), .val (.int (own_acc W 22)), .val (.int (22 : Int32))] [(.int (22 : Int32)), (.ref a1), (.int (own_acc W 22))])) rfl rfl (hb hby d5_13)) ?_
  show own_G p e below _ T22 (mkF m 14 #[.val (.ref a1), .val (.int (own_acc W 22)), .val (.int (22 : Int32))] [(.int (W 22)), (.int (own_acc W 22))])
  refine own_go (fun t k => XS.bipush X22.here hx rfl (hb hby d5_14) k) ?_
  show own_G p e below _ T22 (mkF m 16 #[.val (.ref a1), .val (.int (own_acc W 22)), .val (.int (22 : Int32))] [(.int (48 : Int32)), (.int (W 22)), (.int (own_acc W 22))])
  refine own_go (fun t k => XS.isub X22.here hx rfl (hb hby d5_16) rfl k) ?_
  show own_G p e below _ T22 (mkF m 17 #[.val (.ref a1), .val (.int (own_acc W 22)), .val (.int (22 : Int32))] [(.int ((W 22) - (48 : Int32))), (.int (own_acc W 22))])
  obtain ⟨T23, X23, e23, st23⟩ := getS X22 hx hZ hown (host := "") (hw _ (List.mem_of_getElem? (i := 20) rfl)) Via.refl e22 S_GENERAL_DIGIT_WEIGHTS (g := (mkF m 17 #[.val (.ref a1), .val (.int (own_acc W 22)), .val (.int (22 : Int32))] [(.int ((W 22) - (48 : Int32))), (.int (own_acc W 22))])) rfl (hb hby d5_17)
  refine own_go st23 ?_
  show own_G p e below _ T23 (mkF m 20 #[.val (.ref a1), .val (.int (own_acc W 22)), .val (.int (22 : Int32))] [(.ref a_GENERAL_DIGIT_WEIGHTS), (.int ((W 22) - (48 : Int32))), (.int (own_acc W 22))])
  refine own_go (fun t k => XS.iloadN X23.here hx rfl (hb hby d5_20) rfl k) ?_
  show own_G p e below _ T23 (mkF m 21 #[.val (.ref a1), .val (.int (own_acc W 22)), .val (.int (22 : Int32))] [(.int (22 : Int32)), (.ref a_GENERAL_DIGIT_WEIGHTS), (.int ((W 22) - (48 : Int32))), (.int (own_acc W 22))])
  refine own_go (X23.iaload hx (j := (22 : Int32)) (v := (.int (7 : Int32))) (own_cellAt e23 A_GENERAL_DIGIT_WEIGHTS) (State.isArrayOf_alike hZ.alike A_GENERAL_DIGIT_WEIGHTS.2.1) A_GENERAL_DIGIT_WEIGHTS.2.2 (own_in Z_GENERAL_DIGIT_WEIGHTS (by decide)) V_GENERAL_DIGIT_WEIGHTS_22 (g := (mkF m 21 #[.val (.ref a1), .val (.int (own_acc W 22)), .val (.int (22 : Int32))] [(.int (22 : Int32)), (.ref a_GENERAL_DIGIT_WEIGHTS), (.int ((W 22) - (48 : Int32))), (.int (own_acc W 22))])) rfl rfl (hb hby d5_21)) ?_
  show own_G p e below _ T23 (mkF m 22 #[.val (.ref a1), .val (.int (own_acc W 22)), .val (.int (22 : Int32))] [(.int (7 : Int32)), (.int ((W 22) - (48 : Int32))), (.int (own_acc W 22))])
  refine own_go (fun t k => XS.imul X23.here hx rfl (hb hby d5_22) rfl k) ?_
  show own_G p e below _ T23 (mkF m 23 #[.val (.ref a1), .val (.int (own_acc W 22)), .val (.int (22 : Int32))] [(.int (((W 22) - (48 : Int32)) * (7 : Int32))), (.int (own_acc W 22))])
  refine own_go (fun t k => XS.iadd X23.here hx rfl (hb hby d5_23) rfl k) ?_
  show own_G p e below _ T23 (mkF m 24 #[.val (.ref a1), .val (.int (own_acc W 22)), .val (.int (22 : Int32))] [(.int (own_acc W 23))])
  refine own_go (fun t k => XS.istoreN X23.here hx rfl (hb hby d5_24) rfl (l' := #[.val (.ref a1), .val (.int (own_acc W 23)), .val (.int (22 : Int32))]) rfl k) ?_
  show own_G p e below _ T23 (mkF m 25 #[.val (.ref a1), .val (.int (own_acc W 23)), .val (.int (22 : Int32))] [])
  refine own_go (fun t k => XS.iinc X23.here hx rfl (hb hby d5_25) rfl (l' := #[.val (.ref a1), .val (.int (own_acc W 23)), .val (.int (23 : Int32))]) rfl k) ?_
  show own_G p e below _ T23 (mkF m 28 #[.val (.ref a1), .val (.int (own_acc W 23)), .val (.int (23 : Int32))] [])
  refine own_go (fun t k => XS.goto X23.here hx rfl (pc0 := 28) (pc' := 4) rfl (hb hby d5_28) (by decide) (by decide) k) ?_
  show own_G p e below _ T23 (mkF m 4 #[.val (.ref a1), .val (.int (own_acc W 23)), .val (.int (23 : Int32))] [])
  refine own_go (fun t k => XS.iloadN X23.here hx rfl (hb hby d5_4) rfl k) ?_
  show own_G p e below _ T23 (mkF m 5 #[.val (.ref a1), .val (.int (own_acc W 23)), .val (.int (23 : Int32))] [(.int (23 : Int32))])
  refine own_go (fun t k => XS.bipush X23.here hx rfl (hb hby d5_5) k) ?_
  show own_G p e below _ T23 (mkF m 7 #[.val (.ref a1), .val (.int (own_acc W 23)), .val (.int (23 : Int32))] [(.int (44 : Int32)), (.int (23 : Int32))])
  refine own_go (fun t k => XS.icmpNo X23.here hx rfl (hb hby d5_7) rfl (by decide) k) ?_
  show own_G p e below _ T23 (mkF m 10 #[.val (.ref a1), .val (.int (own_acc W 23)), .val (.int (23 : Int32))] [])
  refine own_go (fun t k => XS.iloadN X23.here hx rfl (hb hby d5_10) rfl k) ?_
  show own_G p e below _ T23 (mkF m 11 #[.val (.ref a1), .val (.int (own_acc W 23)), .val (.int (23 : Int32))] [(.int (own_acc W 23))])
  refine own_go (fun t k => XS.aloadN X23.here hx rfl (hb hby d5_11) rfl rfl k) ?_
  show own_G p e below _ T23 (mkF m 12 #[.val (.ref a1), .val (.int (own_acc W 23)), .val (.int (23 : Int32))] [(.ref a1), (.int (own_acc W 23))])
  refine own_go (fun t k => XS.iloadN X23.here hx rfl (hb hby d5_12) rfl k) ?_
  show own_G p e below _ T23 (mkF m 13 #[.val (.ref a1), .val (.int (own_acc W 23)), .val (.int (23 : Int32))] [(.int (23 : Int32)), (.ref a1), (.int (own_acc W 23))])
  refine own_go (X23.caload hx (j := (23 : Int32)) (v := .int (W 23)) (own_cellAt e23 Ar) (State.isArrayOf_alike hZ.alike Ar.2.1) Ar.2.2 (own_in hsz (by decide)) (hat 23 (by decide)) (g := (mkF m 13 #[.val (.ref a1), .val (.int (own_acc W 23)), .val (.int (23 : Int32))] [(.int (23 : Int32)), (.ref a1), (.int (own_acc W 23))])) rfl rfl (hb hby d5_13)) ?_
  show own_G p e below _ T23 (mkF m 14 #[.val (.ref a1), .val (.int (own_acc W 23)), .val (.int (23 : Int32))] [(.int (W 23)), (.int (own_acc W 23))])
  refine own_go (fun t k => XS.bipush X23.here hx rfl (hb hby d5_14) k) ?_
  show own_G p e below _ T23 (mkF m 16 #[.val (.ref a1), .val (.int (own_acc W 23)), .val (.int (23 : Int32))] [(.int (48 : Int32)), (.int (W 23)), (.int (own_acc W 23))])
  refine own_go (fun t k => XS.isub X23.here hx rfl (hb hby d5_16) rfl k) ?_
  show own_G p e below _ T23 (mkF m 17 #[.val (.ref a1), .val (.int (own_acc W 23)), .val (.int (23 : Int32))] [(.int ((W 23) - (48 : Int32))), (.int (own_acc W 23))])
  obtain ⟨T24, X24, e24, st24⟩ := getS X23 hx hZ hown (host := "") (hw _ (List.mem_of_getElem? (i := 20) rfl)) Via.refl e23 S_GENERAL_DIGIT_WEIGHTS (g := (mkF m 17 #[.val (.ref a1), .val (.int (own_acc W 23)), .val (.int (23 : Int32))] [(.int ((W 23) - (48 : Int32))), (.int (own_acc W 23))])) rfl (hb hby d5_17)
  refine own_go st24 ?_
  show own_G p e below _ T24 (mkF m 20 #[.val (.ref a1), .val (.int (own_acc W 23)), .val (.int (23 : Int32))] [(.ref a_GENERAL_DIGIT_WEIGHTS), (.int ((W 23) - (48 : Int32))), (.int (own_acc W 23))])
  refine own_go (fun t k => XS.iloadN X24.here hx rfl (hb hby d5_20) rfl k) ?_
  show own_G p e below _ T24 (mkF m 21 #[.val (.ref a1), .val (.int (own_acc W 23)), .val (.int (23 : Int32))] [(.int (23 : Int32)), (.ref a_GENERAL_DIGIT_WEIGHTS), (.int ((W 23) - (48 : Int32))), (.int (own_acc W 23))])
  refine own_go (X24.iaload hx (j := (23 : Int32)) (v := (.int (6 : Int32))) (own_cellAt e24 A_GENERAL_DIGIT_WEIGHTS) (State.isArrayOf_alike hZ.alike A_GENERAL_DIGIT_WEIGHTS.2.1) A_GENERAL_DIGIT_WEIGHTS.2.2 (own_in Z_GENERAL_DIGIT_WEIGHTS (by decide)) V_GENERAL_DIGIT_WEIGHTS_23 (g := (mkF m 21 #[.val (.ref a1), .val (.int (own_acc W 23)), .val (.int (23 : Int32))] [(.int (23 : Int32)), (.ref a_GENERAL_DIGIT_WEIGHTS), (.int ((W 23) - (48 : Int32))), (.int (own_acc W 23))])) rfl rfl (hb hby d5_21)) ?_
  show own_G p e below _ T24 (mkF m 22 #[.val (.ref a1), .val (.int (own_acc W 23)), .val (.int (23 : Int32))] [(.int (6 : Int32)), (.int ((W 23) - (48 : Int32))), (.int (own_acc W 23))])
  refine own_go (fun t k => XS.imul X24.here hx rfl (hb hby d5_22) rfl k) ?_
  show own_G p e below _ T24 (mkF m 23 #[.val (.ref a1), .val (.int (own_acc W 23)), .val (.int (23 : Int32))] [(.int (((W 23) - (48 : Int32)) * (6 : Int32))), (.int (own_acc W 23))])
  refine own_go (fun t k => XS.iadd X24.here hx rfl (hb hby d5_23) rfl k) ?_
  show own_G p e below _ T24 (mkF m 24 #[.val (.ref a1), .val (.int (own_acc W 23)), .val (.int (23 : Int32))] [(.int (own_acc W 24))])
  refine own_go (fun t k => XS.istoreN X24.here hx rfl (hb hby d5_24) rfl (l' := #[.val (.ref a1), .val (.int (own_acc W 24)), .val (.int (23 : Int32))]) rfl k) ?_
  show own_G p e below _ T24 (mkF m 25 #[.val (.ref a1), .val (.int (own_acc W 24)), .val (.int (23 : Int32))] [])
  refine own_go (fun t k => XS.iinc X24.here hx rfl (hb hby d5_25) rfl (l' := #[.val (.ref a1), .val (.int (own_acc W 24)), .val (.int (24 : Int32))]) rfl k) ?_
  show own_G p e below _ T24 (mkF m 28 #[.val (.ref a1), .val (.int (own_acc W 24)), .val (.int (24 : Int32))] [])
  refine own_go (fun t k => XS.goto X24.here hx rfl (pc0 := 28) (pc' := 4) rfl (hb hby d5_28) (by decide) (by decide) k) ?_
  show own_G p e below _ T24 (mkF m 4 #[.val (.ref a1), .val (.int (own_acc W 24)), .val (.int (24 : Int32))] [])
  refine own_go (fun t k => XS.iloadN X24.here hx rfl (hb hby d5_4) rfl k) ?_
  show own_G p e below _ T24 (mkF m 5 #[.val (.ref a1), .val (.int (own_acc W 24)), .val (.int (24 : Int32))] [(.int (24 : Int32))])
  refine own_go (fun t k => XS.bipush X24.here hx rfl (hb hby d5_5) k) ?_
  show own_G p e below _ T24 (mkF m 7 #[.val (.ref a1), .val (.int (own_acc W 24)), .val (.int (24 : Int32))] [(.int (44 : Int32)), (.int (24 : Int32))])
  refine own_go (fun t k => XS.icmpNo X24.here hx rfl (hb hby d5_7) rfl (by decide) k) ?_
  show own_G p e below _ T24 (mkF m 10 #[.val (.ref a1), .val (.int (own_acc W 24)), .val (.int (24 : Int32))] [])
  refine own_go (fun t k => XS.iloadN X24.here hx rfl (hb hby d5_10) rfl k) ?_
  show own_G p e below _ T24 (mkF m 11 #[.val (.ref a1), .val (.int (own_acc W 24)), .val (.int (24 : Int32))] [(.int (own_acc W 24))])
  refine own_go (fun t k => XS.aloadN X24.here hx rfl (hb hby d5_11) rfl rfl k) ?_
  show own_G p e below _ T24 (mkF m 12 #[.val (.ref a1), .val (.int (own_acc W 24)), .val (.int (24 : Int32))] [(.ref a1), (.int (own_acc W 24))])
  refine own_go (fun t k => XS.iloadN X24.here hx rfl (hb hby d5_12) rfl k) ?_
  show own_G p e below _ T24 (mkF m 13 #[.val (.ref a1), .val (.int (own_acc W 24)), .val (.int (24 : Int32))] [(.int (24 : Int32)), (.ref a1), (.int (own_acc W 24))])
  refine own_go (X24.caload hx (j := (24 : Int32)) (v := .int (W 24)) (own_cellAt e24 Ar) (State.isArrayOf_alike hZ.alike Ar.2.1) Ar.2.2 (own_in hsz (by decide)) (hat 24 (by decide)) (g := (mkF m 13 #[.val (.ref a1), .val (.int (own_acc W 24)), .val (.int (24 : Int32))] [(.int (24 : Int32)), (.ref a1), (.int (own_acc W 24))])) rfl rfl (hb hby d5_13)) ?_
  show own_G p e below _ T24 (mkF m 14 #[.val (.ref a1), .val (.int (own_acc W 24)), .val (.int (24 : Int32))] [(.int (W 24)), (.int (own_acc W 24))])
  refine own_go (fun t k => XS.bipush X24.here hx rfl (hb hby d5_14) k) ?_
  show own_G p e below _ T24 (mkF m 16 #[.val (.ref a1), .val (.int (own_acc W 24)), .val (.int (24 : Int32))] [(.int (48 : Int32)), (.int (W 24)), (.int (own_acc W 24))])
  refine own_go (fun t k => XS.isub X24.here hx rfl (hb hby d5_16) rfl k) ?_
  show own_G p e below _ T24 (mkF m 17 #[.val (.ref a1), .val (.int (own_acc W 24)), .val (.int (24 : Int32))] [(.int ((W 24) - (48 : Int32))), (.int (own_acc W 24))])
  obtain ⟨T25, X25, e25, st25⟩ := getS X24 hx hZ hown (host := "") (hw _ (List.mem_of_getElem? (i := 20) rfl)) Via.refl e24 S_GENERAL_DIGIT_WEIGHTS (g := (mkF m 17 #[.val (.ref a1), .val (.int (own_acc W 24)), .val (.int (24 : Int32))] [(.int ((W 24) - (48 : Int32))), (.int (own_acc W 24))])) rfl (hb hby d5_17)
  refine own_go st25 ?_
  show own_G p e below _ T25 (mkF m 20 #[.val (.ref a1), .val (.int (own_acc W 24)), .val (.int (24 : Int32))] [(.ref a_GENERAL_DIGIT_WEIGHTS), (.int ((W 24) - (48 : Int32))), (.int (own_acc W 24))])
  refine own_go (fun t k => XS.iloadN X25.here hx rfl (hb hby d5_20) rfl k) ?_
  show own_G p e below _ T25 (mkF m 21 #[.val (.ref a1), .val (.int (own_acc W 24)), .val (.int (24 : Int32))] [(.int (24 : Int32)), (.ref a_GENERAL_DIGIT_WEIGHTS), (.int ((W 24) - (48 : Int32))), (.int (own_acc W 24))])
  refine own_go (X25.iaload hx (j := (24 : Int32)) (v := (.int (5 : Int32))) (own_cellAt e25 A_GENERAL_DIGIT_WEIGHTS) (State.isArrayOf_alike hZ.alike A_GENERAL_DIGIT_WEIGHTS.2.1) A_GENERAL_DIGIT_WEIGHTS.2.2 (own_in Z_GENERAL_DIGIT_WEIGHTS (by decide)) V_GENERAL_DIGIT_WEIGHTS_24 (g := (mkF m 21 #[.val (.ref a1), .val (.int (own_acc W 24)), .val (.int (24 : Int32))] [(.int (24 : Int32)), (.ref a_GENERAL_DIGIT_WEIGHTS), (.int ((W 24) - (48 : Int32))), (.int (own_acc W 24))])) rfl rfl (hb hby d5_21)) ?_
  show own_G p e below _ T25 (mkF m 22 #[.val (.ref a1), .val (.int (own_acc W 24)), .val (.int (24 : Int32))] [(.int (5 : Int32)), (.int ((W 24) - (48 : Int32))), (.int (own_acc W 24))])
  refine own_go (fun t k => XS.imul X25.here hx rfl (hb hby d5_22) rfl k) ?_
  show own_G p e below _ T25 (mkF m 23 #[.val (.ref a1), .val (.int (own_acc W 24)), .val (.int (24 : Int32))] [(.int (((W 24) - (48 : Int32)) * (5 : Int32))), (.int (own_acc W 24))])
  refine own_go (fun t k => XS.iadd X25.here hx rfl (hb hby d5_23) rfl k) ?_
  show own_G p e below _ T25 (mkF m 24 #[.val (.ref a1), .val (.int (own_acc W 24)), .val (.int (24 : Int32))] [(.int (own_acc W 25))])
  refine own_go (fun t k => XS.istoreN X25.here hx rfl (hb hby d5_24) rfl (l' := #[.val (.ref a1), .val (.int (own_acc W 25)), .val (.int (24 : Int32))]) rfl k) ?_
  show own_G p e below _ T25 (mkF m 25 #[.val (.ref a1), .val (.int (own_acc W 25)), .val (.int (24 : Int32))] [])
  refine own_go (fun t k => XS.iinc X25.here hx rfl (hb hby d5_25) rfl (l' := #[.val (.ref a1), .val (.int (own_acc W 25)), .val (.int (25 : Int32))]) rfl k) ?_
  show own_G p e below _ T25 (mkF m 28 #[.val (.ref a1), .val (.int (own_acc W 25)), .val (.int (25 : Int32))] [])
  refine own_go (fun t k => XS.goto X25.here hx rfl (pc0 := 28) (pc' := 4) rfl (hb hby d5_28) (by decide) (by decide) k) ?_
  show own_G p e below _ T25 (mkF m 4 #[.val (.ref a1), .val (.int (own_acc W 25)), .val (.int (25 : Int32))] [])
  refine own_go (fun t k => XS.iloadN X25.here hx rfl (hb hby d5_4) rfl k) ?_
  show own_G p e below _ T25 (mkF m 5 #[.val (.ref a1), .val (.int (own_acc W 25)), .val (.int (25 : Int32))] [(.int (25 : Int32))])
  refine own_go (fun t k => XS.bipush X25.here hx rfl (hb hby d5_5) k) ?_
  show own_G p e below _ T25 (mkF m 7 #[.val (.ref a1), .val (.int (own_acc W 25)), .val (.int (25 : Int32))] [(.int (44 : Int32)), (.int (25 : Int32))])
  refine own_go (fun t k => XS.icmpNo X25.here hx rfl (hb hby d5_7) rfl (by decide) k) ?_
  show own_G p e below _ T25 (mkF m 10 #[.val (.ref a1), .val (.int (own_acc W 25)), .val (.int (25 : Int32))] [])
  refine own_go (fun t k => XS.iloadN X25.here hx rfl (hb hby d5_10) rfl k) ?_
  show own_G p e below _ T25 (mkF m 11 #[.val (.ref a1), .val (.int (own_acc W 25)), .val (.int (25 : Int32))] [(.int (own_acc W 25))])
  refine own_go (fun t k => XS.aloadN X25.here hx rfl (hb hby d5_11) rfl rfl k) ?_
  show own_G p e below _ T25 (mkF m 12 #[.val (.ref a1), .val (.int (own_acc W 25)), .val (.int (25 : Int32))] [(.ref a1), (.int (own_acc W 25))])
  refine own_go (fun t k => XS.iloadN X25.here hx rfl (hb hby d5_12) rfl k) ?_
  show own_G p e below _ T25 (mkF m 13 #[.val (.ref a1), .val (.int (own_acc W 25)), .val (.int (25 : Int32))] [(.int (25 : Int32)), (.ref a1), (.int (own_acc W 25))])
  refine own_go (X25.caload hx (j := (25 : Int32)) (v := .int (W 25)) (own_cellAt e25 Ar) (State.isArrayOf_alike hZ.alike Ar.2.1) Ar.2.2 (own_in hsz (by decide)) (hat 25 (by decide)) (g := (mkF m 13 #[.val (.ref a1), .val (.int (own_acc W 25)), .val (.int (25 : Int32))] [(.int (25 : Int32)), (.ref a1), (.int (own_acc W 25))])) rfl rfl (hb hby d5_13)) ?_
  show own_G p e below _ T25 (mkF m 14 #[.val (.ref a1), .val (.int (own_acc W 25)), .val (.int (25 : Int32))] [(.int (W 25)), (.int (own_acc W 25))])
  refine own_go (fun t k => XS.bipush X25.here hx rfl (hb hby d5_14) k) ?_
  show own_G p e below _ T25 (mkF m 16 #[.val (.ref a1), .val (.int (own_acc W 25)), .val (.int (25 : Int32))] [(.int (48 : Int32)), (.int (W 25)), (.int (own_acc W 25))])
  refine own_go (fun t k => XS.isub X25.here hx rfl (hb hby d5_16) rfl k) ?_
  show own_G p e below _ T25 (mkF m 17 #[.val (.ref a1), .val (.int (own_acc W 25)), .val (.int (25 : Int32))] [(.int ((W 25) - (48 : Int32))), (.int (own_acc W 25))])
  obtain ⟨T26, X26, e26, st26⟩ := getS X25 hx hZ hown (host := "") (hw _ (List.mem_of_getElem? (i := 20) rfl)) Via.refl e25 S_GENERAL_DIGIT_WEIGHTS (g := (mkF m 17 #[.val (.ref a1), .val (.int (own_acc W 25)), .val (.int (25 : Int32))] [(.int ((W 25) - (48 : Int32))), (.int (own_acc W 25))])) rfl (hb hby d5_17)
  refine own_go st26 ?_
  show own_G p e below _ T26 (mkF m 20 #[.val (.ref a1), .val (.int (own_acc W 25)), .val (.int (25 : Int32))] [(.ref a_GENERAL_DIGIT_WEIGHTS), (.int ((W 25) - (48 : Int32))), (.int (own_acc W 25))])
  refine own_go (fun t k => XS.iloadN X26.here hx rfl (hb hby d5_20) rfl k) ?_
  show own_G p e below _ T26 (mkF m 21 #[.val (.ref a1), .val (.int (own_acc W 25)), .val (.int (25 : Int32))] [(.int (25 : Int32)), (.ref a_GENERAL_DIGIT_WEIGHTS), (.int ((W 25) - (48 : Int32))), (.int (own_acc W 25))])
  refine own_go (X26.iaload hx (j := (25 : Int32)) (v := (.int (4 : Int32))) (own_cellAt e26 A_GENERAL_DIGIT_WEIGHTS) (State.isArrayOf_alike hZ.alike A_GENERAL_DIGIT_WEIGHTS.2.1) A_GENERAL_DIGIT_WEIGHTS.2.2 (own_in Z_GENERAL_DIGIT_WEIGHTS (by decide)) V_GENERAL_DIGIT_WEIGHTS_25 (g := (mkF m 21 #[.val (.ref a1), .val (.int (own_acc W 25)), .val (.int (25 : Int32))] [(.int (25 : Int32)), (.ref a_GENERAL_DIGIT_WEIGHTS), (.int ((W 25) - (48 : Int32))), (.int (own_acc W 25))])) rfl rfl (hb hby d5_21)) ?_
  show own_G p e below _ T26 (mkF m 22 #[.val (.ref a1), .val (.int (own_acc W 25)), .val (.int (25 : Int32))] [(.int (4 : Int32)), (.int ((W 25) - (48 : Int32))), (.int (own_acc W 25))])
  refine own_go (fun t k => XS.imul X26.here hx rfl (hb hby d5_22) rfl k) ?_
  show own_G p e below _ T26 (mkF m 23 #[.val (.ref a1), .val (.int (own_acc W 25)), .val (.int (25 : Int32))] [(.int (((W 25) - (48 : Int32)) * (4 : Int32))), (.int (own_acc W 25))])
  refine own_go (fun t k => XS.iadd X26.here hx rfl (hb hby d5_23) rfl k) ?_
  show own_G p e below _ T26 (mkF m 24 #[.val (.ref a1), .val (.int (own_acc W 25)), .val (.int (25 : Int32))] [(.int (own_acc W 26))])
  refine own_go (fun t k => XS.istoreN X26.here hx rfl (hb hby d5_24) rfl (l' := #[.val (.ref a1), .val (.int (own_acc W 26)), .val (.int (25 : Int32))]) rfl k) ?_
  show own_G p e below _ T26 (mkF m 25 #[.val (.ref a1), .val (.int (own_acc W 26)), .val (.int (25 : Int32))] [])
  refine own_go (fun t k => XS.iinc X26.here hx rfl (hb hby d5_25) rfl (l' := #[.val (.ref a1), .val (.int (own_acc W 26)), .val (.int (26 : Int32))]) rfl k) ?_
  show own_G p e below _ T26 (mkF m 28 #[.val (.ref a1), .val (.int (own_acc W 26)), .val (.int (26 : Int32))] [])
  refine own_go (fun t k => XS.goto X26.here hx rfl (pc0 := 28) (pc' := 4) rfl (hb hby d5_28) (by decide) (by decide) k) ?_
  show own_G p e below _ T26 (mkF m 4 #[.val (.ref a1), .val (.int (own_acc W 26)), .val (.int (26 : Int32))] [])
  refine own_go (fun t k => XS.iloadN X26.here hx rfl (hb hby d5_4) rfl k) ?_
  show own_G p e below _ T26 (mkF m 5 #[.val (.ref a1), .val (.int (own_acc W 26)), .val (.int (26 : Int32))] [(.int (26 : Int32))])
  refine own_go (fun t k => XS.bipush X26.here hx rfl (hb hby d5_5) k) ?_
  show own_G p e below _ T26 (mkF m 7 #[.val (.ref a1), .val (.int (own_acc W 26)), .val (.int (26 : Int32))] [(.int (44 : Int32)), (.int (26 : Int32))])
  refine own_go (fun t k => XS.icmpNo X26.here hx rfl (hb hby d5_7) rfl (by decide) k) ?_
  show own_G p e below _ T26 (mkF m 10 #[.val (.ref a1), .val (.int (own_acc W 26)), .val (.int (26 : Int32))] [])
  refine own_go (fun t k => XS.iloadN X26.here hx rfl (hb hby d5_10) rfl k) ?_
  show own_G p e below _ T26 (mkF m 11 #[.val (.ref a1), .val (.int (own_acc W 26)), .val (.int (26 : Int32))] [(.int (own_acc W 26))])
  refine own_go (fun t k => XS.aloadN X26.here hx rfl (hb hby d5_11) rfl rfl k) ?_
  show own_G p e below _ T26 (mkF m 12 #[.val (.ref a1), .val (.int (own_acc W 26)), .val (.int (26 : Int32))] [(.ref a1), (.int (own_acc W 26))])
  refine own_go (fun t k => XS.iloadN X26.here hx rfl (hb hby d5_12) rfl k) ?_
  show own_G p e below _ T26 (mkF m 13 #[.val (.ref a1), .val (.int (own_acc W 26)), .val (.int (26 : Int32))] [(.int (26 : Int32)), (.ref a1), (.int (own_acc W 26))])
  refine own_go (X26.caload hx (j := (26 : Int32)) (v := .int (W 26)) (own_cellAt e26 Ar) (State.isArrayOf_alike hZ.alike Ar.2.1) Ar.2.2 (own_in hsz (by decide)) (hat 26 (by decide)) (g := (mkF m 13 #[.val (.ref a1), .val (.int (own_acc W 26)), .val (.int (26 : Int32))] [(.int (26 : Int32)), (.ref a1), (.int (own_acc W 26))])) rfl rfl (hb hby d5_13)) ?_
  show own_G p e below _ T26 (mkF m 14 #[.val (.ref a1), .val (.int (own_acc W 26)), .val (.int (26 : Int32))] [(.int (W 26)), (.int (own_acc W 26))])
  refine own_go (fun t k => XS.bipush X26.here hx rfl (hb hby d5_14) k) ?_
  show own_G p e below _ T26 (mkF m 16 #[.val (.ref a1), .val (.int (own_acc W 26)), .val (.int (26 : Int32))] [(.int (48 : Int32)), (.int (W 26)), (.int (own_acc W 26))])
  refine own_go (fun t k => XS.isub X26.here hx rfl (hb hby d5_16) rfl k) ?_
  show own_G p e below _ T26 (mkF m 17 #[.val (.ref a1), .val (.int (own_acc W 26)), .val (.int (26 : Int32))] [(.int ((W 26) - (48 : Int32))), (.int (own_acc W 26))])
  obtain ⟨T27, X27, e27, st27⟩ := getS X26 hx hZ hown (host := "") (hw _ (List.mem_of_getElem? (i := 20) rfl)) Via.refl e26 S_GENERAL_DIGIT_WEIGHTS (g := (mkF m 17 #[.val (.ref a1), .val (.int (own_acc W 26)), .val (.int (26 : Int32))] [(.int ((W 26) - (48 : Int32))), (.int (own_acc W 26))])) rfl (hb hby d5_17)
  refine own_go st27 ?_
  show own_G p e below _ T27 (mkF m 20 #[.val (.ref a1), .val (.int (own_acc W 26)), .val (.int (26 : Int32))] [(.ref a_GENERAL_DIGIT_WEIGHTS), (.int ((W 26) - (48 : Int32))), (.int (own_acc W 26))])
  refine own_go (fun t k => XS.iloadN X27.here hx rfl (hb hby d5_20) rfl k) ?_
  show own_G p e below _ T27 (mkF m 21 #[.val (.ref a1), .val (.int (own_acc W 26)), .val (.int (26 : Int32))] [(.int (26 : Int32)), (.ref a_GENERAL_DIGIT_WEIGHTS), (.int ((W 26) - (48 : Int32))), (.int (own_acc W 26))])
  refine own_go (X27.iaload hx (j := (26 : Int32)) (v := (.int (3 : Int32))) (own_cellAt e27 A_GENERAL_DIGIT_WEIGHTS) (State.isArrayOf_alike hZ.alike A_GENERAL_DIGIT_WEIGHTS.2.1) A_GENERAL_DIGIT_WEIGHTS.2.2 (own_in Z_GENERAL_DIGIT_WEIGHTS (by decide)) V_GENERAL_DIGIT_WEIGHTS_26 (g := (mkF m 21 #[.val (.ref a1), .val (.int (own_acc W 26)), .val (.int (26 : Int32))] [(.int (26 : Int32)), (.ref a_GENERAL_DIGIT_WEIGHTS), (.int ((W 26) - (48 : Int32))), (.int (own_acc W 26))])) rfl rfl (hb hby d5_21)) ?_
  show own_G p e below _ T27 (mkF m 22 #[.val (.ref a1), .val (.int (own_acc W 26)), .val (.int (26 : Int32))] [(.int (3 : Int32)), (.int ((W 26) - (48 : Int32))), (.int (own_acc W 26))])
  refine own_go (fun t k => XS.imul X27.here hx rfl (hb hby d5_22) rfl k) ?_
  show own_G p e below _ T27 (mkF m 23 #[.val (.ref a1), .val (.int (own_acc W 26)), .val (.int (26 : Int32))] [(.int (((W 26) - (48 : Int32)) * (3 : Int32))), (.int (own_acc W 26))])
  refine own_go (fun t k => XS.iadd X27.here hx rfl (hb hby d5_23) rfl k) ?_
  show own_G p e below _ T27 (mkF m 24 #[.val (.ref a1), .val (.int (own_acc W 26)), .val (.int (26 : Int32))] [(.int (own_acc W 27))])
  refine own_go (fun t k => XS.istoreN X27.here hx rfl (hb hby d5_24) rfl (l' := #[.val (.ref a1), .val (.int (own_acc W 27)), .val (.int (26 : Int32))]) rfl k) ?_
  show own_G p e below _ T27 (mkF m 25 #[.val (.ref a1), .val (.int (own_acc W 27)), .val (.int (26 : Int32))] [])
  refine own_go (fun t k => XS.iinc X27.here hx rfl (hb hby d5_25) rfl (l' := #[.val (.ref a1), .val (.int (own_acc W 27)), .val (.int (27 : Int32))]) rfl k) ?_
  show own_G p e below _ T27 (mkF m 28 #[.val (.ref a1), .val (.int (own_acc W 27)), .val (.int (27 : Int32))] [])
  refine own_go (fun t k => XS.goto X27.here hx rfl (pc0 := 28) (pc' := 4) rfl (hb hby d5_28) (by decide) (by decide) k) ?_
  show own_G p e below _ T27 (mkF m 4 #[.val (.ref a1), .val (.int (own_acc W 27)), .val (.int (27 : Int32))] [])
  refine own_go (fun t k => XS.iloadN X27.here hx rfl (hb hby d5_4) rfl k) ?_
  show own_G p e below _ T27 (mkF m 5 #[.val (.ref a1), .val (.int (own_acc W 27)), .val (.int (27 : Int32))] [(.int (27 : Int32))])
  refine own_go (fun t k => XS.bipush X27.here hx rfl (hb hby d5_5) k) ?_
  show own_G p e below _ T27 (mkF m 7 #[.val (.ref a1), .val (.int (own_acc W 27)), .val (.int (27 : Int32))] [(.int (44 : Int32)), (.int (27 : Int32))])
  refine own_go (fun t k => XS.icmpNo X27.here hx rfl (hb hby d5_7) rfl (by decide) k) ?_
  show own_G p e below _ T27 (mkF m 10 #[.val (.ref a1), .val (.int (own_acc W 27)), .val (.int (27 : Int32))] [])
  refine own_go (fun t k => XS.iloadN X27.here hx rfl (hb hby d5_10) rfl k) ?_
  show own_G p e below _ T27 (mkF m 11 #[.val (.ref a1), .val (.int (own_acc W 27)), .val (.int (27 : Int32))] [(.int (own_acc W 27))])
  refine own_go (fun t k => XS.aloadN X27.here hx rfl (hb hby d5_11) rfl rfl k) ?_
  show own_G p e below _ T27 (mkF m 12 #[.val (.ref a1), .val (.int (own_acc W 27)), .val (.int (27 : Int32))] [(.ref a1), (.int (own_acc W 27))])
  refine own_go (fun t k => XS.iloadN X27.here hx rfl (hb hby d5_12) rfl k) ?_
  show own_G p e below _ T27 (mkF m 13 #[.val (.ref a1), .val (.int (own_acc W 27)), .val (.int (27 : Int32))] [(.int (27 : Int32)), (.ref a1), (.int (own_acc W 27))])
  refine own_go (X27.caload hx (j := (27 : Int32)) (v := .int (W 27)) (own_cellAt e27 Ar) (State.isArrayOf_alike hZ.alike Ar.2.1) Ar.2.2 (own_in hsz (by decide)) (hat 27 (by decide)) (g := (mkF m 13 #[.val (.ref a1), .val (.int (own_acc W 27)), .val (.int (27 : Int32))] [(.int (27 : Int32)), (.ref a1), (.int (own_acc W 27))])) rfl rfl (hb hby d5_13)) ?_
  show own_G p e below _ T27 (mkF m 14 #[.val (.ref a1), .val (.int (own_acc W 27)), .val (.int (27 : Int32))] [(.int (W 27)), (.int (own_acc W 27))])
  refine own_go (fun t k => XS.bipush X27.here hx rfl (hb hby d5_14) k) ?_
  show own_G p e below _ T27 (mkF m 16 #[.val (.ref a1), .val (.int (own_acc W 27)), .val (.int (27 : Int32))] [(.int (48 : Int32)), (.int (W 27)), (.int (own_acc W 27))])
  refine own_go (fun t k => XS.isub X27.here hx rfl (hb hby d5_16) rfl k) ?_
  show own_G p e below _ T27 (mkF m 17 #[.val (.ref a1), .val (.int (own_acc W 27)), .val (.int (27 : Int32))] [(.int ((W 27) - (48 : Int32))), (.int (own_acc W 27))])
  obtain ⟨T28, X28, e28, st28⟩ := getS X27 hx hZ hown (host := "") (hw _ (List.mem_of_getElem? (i := 20) rfl)) Via.refl e27 S_GENERAL_DIGIT_WEIGHTS (g := (mkF m 17 #[.val (.ref a1), .val (.int (own_acc W 27)), .val (.int (27 : Int32))] [(.int ((W 27) - (48 : Int32))), (.int (own_acc W 27))])) rfl (hb hby d5_17)
  refine own_go st28 ?_
  show own_G p e below _ T28 (mkF m 20 #[.val (.ref a1), .val (.int (own_acc W 27)), .val (.int (27 : Int32))] [(.ref a_GENERAL_DIGIT_WEIGHTS), (.int ((W 27) - (48 : Int32))), (.int (own_acc W 27))])
  refine own_go (fun t k => XS.iloadN X28.here hx rfl (hb hby d5_20) rfl k) ?_
  show own_G p e below _ T28 (mkF m 21 #[.val (.ref a1), .val (.int (own_acc W 27)), .val (.int (27 : Int32))] [(.int (27 : Int32)), (.ref a_GENERAL_DIGIT_WEIGHTS), (.int ((W 27) - (48 : Int32))), (.int (own_acc W 27))])
  refine own_go (X28.iaload hx (j := (27 : Int32)) (v := (.int (2 : Int32))) (own_cellAt e28 A_GENERAL_DIGIT_WEIGHTS) (State.isArrayOf_alike hZ.alike A_GENERAL_DIGIT_WEIGHTS.2.1) A_GENERAL_DIGIT_WEIGHTS.2.2 (own_in Z_GENERAL_DIGIT_WEIGHTS (by decide)) V_GENERAL_DIGIT_WEIGHTS_27 (g := (mkF m 21 #[.val (.ref a1), .val (.int (own_acc W 27)), .val (.int (27 : Int32))] [(.int (27 : Int32)), (.ref a_GENERAL_DIGIT_WEIGHTS), (.int ((W 27) - (48 : Int32))), (.int (own_acc W 27))])) rfl rfl (hb hby d5_21)) ?_
  show own_G p e below _ T28 (mkF m 22 #[.val (.ref a1), .val (.int (own_acc W 27)), .val (.int (27 : Int32))] [(.int (2 : Int32)), (.int ((W 27) - (48 : Int32))), (.int (own_acc W 27))])
  refine own_go (fun t k => XS.imul X28.here hx rfl (hb hby d5_22) rfl k) ?_
  show own_G p e below _ T28 (mkF m 23 #[.val (.ref a1), .val (.int (own_acc W 27)), .val (.int (27 : Int32))] [(.int (((W 27) - (48 : Int32)) * (2 : Int32))), (.int (own_acc W 27))])
  refine own_go (fun t k => XS.iadd X28.here hx rfl (hb hby d5_23) rfl k) ?_
  show own_G p e below _ T28 (mkF m 24 #[.val (.ref a1), .val (.int (own_acc W 27)), .val (.int (27 : Int32))] [(.int (own_acc W 28))])
  refine own_go (fun t k => XS.istoreN X28.here hx rfl (hb hby d5_24) rfl (l' := #[.val (.ref a1), .val (.int (own_acc W 28)), .val (.int (27 : Int32))]) rfl k) ?_
  show own_G p e below _ T28 (mkF m 25 #[.val (.ref a1), .val (.int (own_acc W 28)), .val (.int (27 : Int32))] [])
  refine own_go (fun t k => XS.iinc X28.here hx rfl (hb hby d5_25) rfl (l' := #[.val (.ref a1), .val (.int (own_acc W 28)), .val (.int (28 : Int32))]) rfl k) ?_
  show own_G p e below _ T28 (mkF m 28 #[.val (.ref a1), .val (.int (own_acc W 28)), .val (.int (28 : Int32))] [])
  refine own_go (fun t k => XS.goto X28.here hx rfl (pc0 := 28) (pc' := 4) rfl (hb hby d5_28) (by decide) (by decide) k) ?_
  show own_G p e below _ T28 (mkF m 4 #[.val (.ref a1), .val (.int (own_acc W 28)), .val (.int (28 : Int32))] [])
  refine own_go (fun t k => XS.iloadN X28.here hx rfl (hb hby d5_4) rfl k) ?_
  show own_G p e below _ T28 (mkF m 5 #[.val (.ref a1), .val (.int (own_acc W 28)), .val (.int (28 : Int32))] [(.int (28 : Int32))])
  refine own_go (fun t k => XS.bipush X28.here hx rfl (hb hby d5_5) k) ?_
  show own_G p e below _ T28 (mkF m 7 #[.val (.ref a1), .val (.int (own_acc W 28)), .val (.int (28 : Int32))] [(.int (44 : Int32)), (.int (28 : Int32))])
  refine own_go (fun t k => XS.icmpNo X28.here hx rfl (hb hby d5_7) rfl (by decide) k) ?_
  show own_G p e below _ T28 (mkF m 10 #[.val (.ref a1), .val (.int (own_acc W 28)), .val (.int (28 : Int32))] [])
  refine own_go (fun t k => XS.iloadN X28.here hx rfl (hb hby d5_10) rfl k) ?_
  show own_G p e below _ T28 (mkF m 11 #[.val (.ref a1), .val (.int (own_acc W 28)), .val (.int (28 : Int32))] [(.int (own_acc W 28))])
  refine own_go (fun t k => XS.aloadN X28.here hx rfl (hb hby d5_11) rfl rfl k) ?_
  show own_G p e below _ T28 (mkF m 12 #[.val (.ref a1), .val (.int (own_acc W 28)), .val (.int (28 : Int32))] [(.ref a1), (.int (own_acc W 28))])
  refine own_go (fun t k => XS.iloadN X28.here hx rfl (hb hby d5_12) rfl k) ?_
  show own_G p e below _ T28 (mkF m 13 #[.val (.ref a1), .val (.int (own_acc W 28)), .val (.int (28 : Int32))] [(.int (28 : Int32)), (.ref a1), (.int (own_acc W 28))])
  refine own_go (X28.caload hx (j := (28 : Int32)) (v := .int (W 28)) (own_cellAt e28 Ar) (State.isArrayOf_alike hZ.alike Ar.2.1) Ar.2.2 (own_in hsz (by decide)) (hat 28 (by decide)) (g := (mkF m 13 #[.val (.ref a1), .val (.int (own_acc W 28)), .val (.int (28 : Int32))] [(.int (28 : Int32)), (.ref a1), (.int (own_acc W 28))])) rfl rfl (hb hby d5_13)) ?_
  show own_G p e below _ T28 (mkF m 14 #[.val (.ref a1), .val (.int (own_acc W 28)), .val (.int (28 : Int32))] [(.int (W 28)), (.int (own_acc W 28))])
  refine own_go (fun t k => XS.bipush X28.here hx rfl (hb hby d5_14) k) ?_
  show own_G p e below _ T28 (mkF m 16 #[.val (.ref a1), .val (.int (own_acc W 28)), .val (.int (28 : Int32))] [(.int (48 : Int32)), (.int (W 28)), (.int (own_acc W 28))])
  refine own_go (fun t k => XS.isub X28.here hx rfl (hb hby d5_16) rfl k) ?_
  show own_G p e below _ T28 (mkF m 17 #[.val (.ref a1), .val (.int (own_acc W 28)), .val (.int (28 : Int32))] [(.int ((W 28) - (48 : Int32))), (.int (own_acc W 28))])
  obtain ⟨T29, X29, e29, st29⟩ := getS X28 hx hZ hown (host := "") (hw _ (List.mem_of_getElem? (i := 20) rfl)) Via.refl e28 S_GENERAL_DIGIT_WEIGHTS (g := (mkF m 17 #[.val (.ref a1), .val (.int (own_acc W 28)), .val (.int (28 : Int32))] [(.int ((W 28) - (48 : Int32))), (.int (own_acc W 28))])) rfl (hb hby d5_17)
  refine own_go st29 ?_
  show own_G p e below _ T29 (mkF m 20 #[.val (.ref a1), .val (.int (own_acc W 28)), .val (.int (28 : Int32))] [(.ref a_GENERAL_DIGIT_WEIGHTS), (.int ((W 28) - (48 : Int32))), (.int (own_acc W 28))])
  refine own_go (fun t k => XS.iloadN X29.here hx rfl (hb hby d5_20) rfl k) ?_
  show own_G p e below _ T29 (mkF m 21 #[.val (.ref a1), .val (.int (own_acc W 28)), .val (.int (28 : Int32))] [(.int (28 : Int32)), (.ref a_GENERAL_DIGIT_WEIGHTS), (.int ((W 28) - (48 : Int32))), (.int (own_acc W 28))])
  refine own_go (X29.iaload hx (j := (28 : Int32)) (v := (.int (9 : Int32))) (own_cellAt e29 A_GENERAL_DIGIT_WEIGHTS) (State.isArrayOf_alike hZ.alike A_GENERAL_DIGIT_WEIGHTS.2.1) A_GENERAL_DIGIT_WEIGHTS.2.2 (own_in Z_GENERAL_DIGIT_WEIGHTS (by decide)) V_GENERAL_DIGIT_WEIGHTS_28 (g := (mkF m 21 #[.val (.ref a1), .val (.int (own_acc W 28)), .val (.int (28 : Int32))] [(.int (28 : Int32)), (.ref a_GENERAL_DIGIT_WEIGHTS), (.int ((W 28) - (48 : Int32))), (.int (own_acc W 28))])) rfl rfl (hb hby d5_21)) ?_
  show own_G p e below _ T29 (mkF m 22 #[.val (.ref a1), .val (.int (own_acc W 28)), .val (.int (28 : Int32))] [(.int (9 : Int32)), (.int ((W 28) - (48 : Int32))), (.int (own_acc W 28))])
  refine own_go (fun t k => XS.imul X29.here hx rfl (hb hby d5_22) rfl k) ?_
  show own_G p e below _ T29 (mkF m 23 #[.val (.ref a1), .val (.int (own_acc W 28)), .val (.int (28 : Int32))] [(.int (((W 28) - (48 : Int32)) * (9 : Int32))), (.int (own_acc W 28))])
  refine own_go (fun t k => XS.iadd X29.here hx rfl (hb hby d5_23) rfl k) ?_
  show own_G p e below _ T29 (mkF m 24 #[.val (.ref a1), .val (.int (own_acc W 28)), .val (.int (28 : Int32))] [(.int (own_acc W 29))])
  refine own_go (fun t k => XS.istoreN X29.here hx rfl (hb hby d5_24) rfl (l' := #[.val (.ref a1), .val (.int (own_acc W 29)), .val (.int (28 : Int32))]) rfl k) ?_
  show own_G p e below _ T29 (mkF m 25 #[.val (.ref a1), .val (.int (own_acc W 29)), .val (.int (28 : Int32))] [])
  refine own_go (fun t k => XS.iinc X29.here hx rfl (hb hby d5_25) rfl (l' := #[.val (.ref a1), .val (.int (own_acc W 29)), .val (.int (29 : Int32))]) rfl k) ?_
  show own_G p e below _ T29 (mkF m 28 #[.val (.ref a1), .val (.int (own_acc W 29)), .val (.int (29 : Int32))] [])
  refine own_go (fun t k => XS.goto X29.here hx rfl (pc0 := 28) (pc' := 4) rfl (hb hby d5_28) (by decide) (by decide) k) ?_
  show own_G p e below _ T29 (mkF m 4 #[.val (.ref a1), .val (.int (own_acc W 29)), .val (.int (29 : Int32))] [])
  refine own_go (fun t k => XS.iloadN X29.here hx rfl (hb hby d5_4) rfl k) ?_
  show own_G p e below _ T29 (mkF m 5 #[.val (.ref a1), .val (.int (own_acc W 29)), .val (.int (29 : Int32))] [(.int (29 : Int32))])
  refine own_go (fun t k => XS.bipush X29.here hx rfl (hb hby d5_5) k) ?_
  show own_G p e below _ T29 (mkF m 7 #[.val (.ref a1), .val (.int (own_acc W 29)), .val (.int (29 : Int32))] [(.int (44 : Int32)), (.int (29 : Int32))])
  refine own_go (fun t k => XS.icmpNo X29.here hx rfl (hb hby d5_7) rfl (by decide) k) ?_
  show own_G p e below _ T29 (mkF m 10 #[.val (.ref a1), .val (.int (own_acc W 29)), .val (.int (29 : Int32))] [])
  refine own_go (fun t k => XS.iloadN X29.here hx rfl (hb hby d5_10) rfl k) ?_
  show own_G p e below _ T29 (mkF m 11 #[.val (.ref a1), .val (.int (own_acc W 29)), .val (.int (29 : Int32))] [(.int (own_acc W 29))])
  refine own_go (fun t k => XS.aloadN X29.here hx rfl (hb hby d5_11) rfl rfl k) ?_
  show own_G p e below _ T29 (mkF m 12 #[.val (.ref a1), .val (.int (own_acc W 29)), .val (.int (29 : Int32))] [(.ref a1), (.int (own_acc W 29))])
  refine own_go (fun t k => XS.iloadN X29.here hx rfl (hb hby d5_12) rfl k) ?_
  show own_G p e below _ T29 (mkF m 13 #[.val (.ref a1), .val (.int (own_acc W 29)), .val (.int (29 : Int32))] [(.int (29 : Int32)), (.ref a1), (.int (own_acc W 29))])
  refine own_go (X29.caload hx (j := (29 : Int32)) (v := .int (W 29)) (own_cellAt e29 Ar) (State.isArrayOf_alike hZ.alike Ar.2.1) Ar.2.2 (own_in hsz (by decide)) (hat 29 (by decide)) (g := (mkF m 13 #[.val (.ref a1), .val (.int (own_acc W 29)), .val (.int (29 : Int32))] [(.int (29 : Int32)), (.ref a1), (.int (own_acc W 29))])) rfl rfl (hb hby d5_13)) ?_
  show own_G p e below _ T29 (mkF m 14 #[.val (.ref a1), .val (.int (own_acc W 29)), .val (.int (29 : Int32))] [(.int (W 29)), (.int (own_acc W 29))])
  refine own_go (fun t k => XS.bipush X29.here hx rfl (hb hby d5_14) k) ?_
  show own_G p e below _ T29 (mkF m 16 #[.val (.ref a1), .val (.int (own_acc W 29)), .val (.int (29 : Int32))] [(.int (48 : Int32)), (.int (W 29)), (.int (own_acc W 29))])
  refine own_go (fun t k => XS.isub X29.here hx rfl (hb hby d5_16) rfl k) ?_
  show own_G p e below _ T29 (mkF m 17 #[.val (.ref a1), .val (.int (own_acc W 29)), .val (.int (29 : Int32))] [(.int ((W 29) - (48 : Int32))), (.int (own_acc W 29))])
  obtain ⟨T30, X30, e30, st30⟩ := getS X29 hx hZ hown (host := "") (hw _ (List.mem_of_getElem? (i := 20) rfl)) Via.refl e29 S_GENERAL_DIGIT_WEIGHTS (g := (mkF m 17 #[.val (.ref a1), .val (.int (own_acc W 29)), .val (.int (29 : Int32))] [(.int ((W 29) - (48 : Int32))), (.int (own_acc W 29))])) rfl (hb hby d5_17)
  refine own_go st30 ?_
  show own_G p e below _ T30 (mkF m 20 #[.val (.ref a1), .val (.int (own_acc W 29)), .val (.int (29 : Int32))] [(.ref a_GENERAL_DIGIT_WEIGHTS), (.int ((W 29) - (48 : Int32))), (.int (own_acc W 29))])
  refine own_go (fun t k => XS.iloadN X30.here hx rfl (hb hby d5_20) rfl k) ?_
  show own_G p e below _ T30 (mkF m 21 #[.val (.ref a1), .val (.int (own_acc W 29)), .val (.int (29 : Int32))] [(.int (29 : Int32)), (.ref a_GENERAL_DIGIT_WEIGHTS), (.int ((W 29) - (48 : Int32))), (.int (own_acc W 29))])
  refine own_go (X30.iaload hx (j := (29 : Int32)) (v := (.int (8 : Int32))) (own_cellAt e30 A_GENERAL_DIGIT_WEIGHTS) (State.isArrayOf_alike hZ.alike A_GENERAL_DIGIT_WEIGHTS.2.1) A_GENERAL_DIGIT_WEIGHTS.2.2 (own_in Z_GENERAL_DIGIT_WEIGHTS (by decide)) V_GENERAL_DIGIT_WEIGHTS_29 (g := (mkF m 21 #[.val (.ref a1), .val (.int (own_acc W 29)), .val (.int (29 : Int32))] [(.int (29 : Int32)), (.ref a_GENERAL_DIGIT_WEIGHTS), (.int ((W 29) - (48 : Int32))), (.int (own_acc W 29))])) rfl rfl (hb hby d5_21)) ?_
  show own_G p e below _ T30 (mkF m 22 #[.val (.ref a1), .val (.int (own_acc W 29)), .val (.int (29 : Int32))] [(.int (8 : Int32)), (.int ((W 29) - (48 : Int32))), (.int (own_acc W 29))])
  refine own_go (fun t k => XS.imul X30.here hx rfl (hb hby d5_22) rfl k) ?_
  show own_G p e below _ T30 (mkF m 23 #[.val (.ref a1), .val (.int (own_acc W 29)), .val (.int (29 : Int32))] [(.int (((W 29) - (48 : Int32)) * (8 : Int32))), (.int (own_acc W 29))])
  refine own_go (fun t k => XS.iadd X30.here hx rfl (hb hby d5_23) rfl k) ?_
  show own_G p e below _ T30 (mkF m 24 #[.val (.ref a1), .val (.int (own_acc W 29)), .val (.int (29 : Int32))] [(.int (own_acc W 30))])
  refine own_go (fun t k => XS.istoreN X30.here hx rfl (hb hby d5_24) rfl (l' := #[.val (.ref a1), .val (.int (own_acc W 30)), .val (.int (29 : Int32))]) rfl k) ?_
  show own_G p e below _ T30 (mkF m 25 #[.val (.ref a1), .val (.int (own_acc W 30)), .val (.int (29 : Int32))] [])
  refine own_go (fun t k => XS.iinc X30.here hx rfl (hb hby d5_25) rfl (l' := #[.val (.ref a1), .val (.int (own_acc W 30)), .val (.int (30 : Int32))]) rfl k) ?_
  show own_G p e below _ T30 (mkF m 28 #[.val (.ref a1), .val (.int (own_acc W 30)), .val (.int (30 : Int32))] [])
  refine own_go (fun t k => XS.goto X30.here hx rfl (pc0 := 28) (pc' := 4) rfl (hb hby d5_28) (by decide) (by decide) k) ?_
  show own_G p e below _ T30 (mkF m 4 #[.val (.ref a1), .val (.int (own_acc W 30)), .val (.int (30 : Int32))] [])
  refine own_go (fun t k => XS.iloadN X30.here hx rfl (hb hby d5_4) rfl k) ?_
  show own_G p e below _ T30 (mkF m 5 #[.val (.ref a1), .val (.int (own_acc W 30)), .val (.int (30 : Int32))] [(.int (30 : Int32))])
  refine own_go (fun t k => XS.bipush X30.here hx rfl (hb hby d5_5) k) ?_
  show own_G p e below _ T30 (mkF m 7 #[.val (.ref a1), .val (.int (own_acc W 30)), .val (.int (30 : Int32))] [(.int (44 : Int32)), (.int (30 : Int32))])
  refine own_go (fun t k => XS.icmpNo X30.here hx rfl (hb hby d5_7) rfl (by decide) k) ?_
  show own_G p e below _ T30 (mkF m 10 #[.val (.ref a1), .val (.int (own_acc W 30)), .val (.int (30 : Int32))] [])
  refine own_go (fun t k => XS.iloadN X30.here hx rfl (hb hby d5_10) rfl k) ?_
  show own_G p e below _ T30 (mkF m 11 #[.val (.ref a1), .val (.int (own_acc W 30)), .val (.int (30 : Int32))] [(.int (own_acc W 30))])
  refine own_go (fun t k => XS.aloadN X30.here hx rfl (hb hby d5_11) rfl rfl k) ?_
  show own_G p e below _ T30 (mkF m 12 #[.val (.ref a1), .val (.int (own_acc W 30)), .val (.int (30 : Int32))] [(.ref a1), (.int (own_acc W 30))])
  refine own_go (fun t k => XS.iloadN X30.here hx rfl (hb hby d5_12) rfl k) ?_
  show own_G p e below _ T30 (mkF m 13 #[.val (.ref a1), .val (.int (own_acc W 30)), .val (.int (30 : Int32))] [(.int (30 : Int32)), (.ref a1), (.int (own_acc W 30))])
  refine own_go (X30.caload hx (j := (30 : Int32)) (v := .int (W 30)) (own_cellAt e30 Ar) (State.isArrayOf_alike hZ.alike Ar.2.1) Ar.2.2 (own_in hsz (by decide)) (hat 30 (by decide)) (g := (mkF m 13 #[.val (.ref a1), .val (.int (own_acc W 30)), .val (.int (30 : Int32))] [(.int (30 : Int32)), (.ref a1), (.int (own_acc W 30))])) rfl rfl (hb hby d5_13)) ?_
  show own_G p e below _ T30 (mkF m 14 #[.val (.ref a1), .val (.int (own_acc W 30)), .val (.int (30 : Int32))] [(.int (W 30)), (.int (own_acc W 30))])
  refine own_go (fun t k => XS.bipush X30.here hx rfl (hb hby d5_14) k) ?_
  show own_G p e below _ T30 (mkF m 16 #[.val (.ref a1), .val (.int (own_acc W 30)), .val (.int (30 : Int32))] [(.int (48 : Int32)), (.int (W 30)), (.int (own_acc W 30))])
  refine own_go (fun t k => XS.isub X30.here hx rfl (hb hby d5_16) rfl k) ?_
  show own_G p e below _ T30 (mkF m 17 #[.val (.ref a1), .val (.int (own_acc W 30)), .val (.int (30 : Int32))] [(.int ((W 30) - (48 : Int32))), (.int (own_acc W 30))])
  obtain ⟨T31, X31, e31, st31⟩ := getS X30 hx hZ hown (host := "") (hw _ (List.mem_of_getElem? (i := 20) rfl)) Via.refl e30 S_GENERAL_DIGIT_WEIGHTS (g := (mkF m 17 #[.val (.ref a1), .val (.int (own_acc W 30)), .val (.int (30 : Int32))] [(.int ((W 30) - (48 : Int32))), (.int (own_acc W 30))])) rfl (hb hby d5_17)
  refine own_go st31 ?_
  show own_G p e below _ T31 (mkF m 20 #[.val (.ref a1), .val (.int (own_acc W 30)), .val (.int (30 : Int32))] [(.ref a_GENERAL_DIGIT_WEIGHTS), (.int ((W 30) - (48 : Int32))), (.int (own_acc W 30))])
  refine own_go (fun t k => XS.iloadN X31.here hx rfl (hb hby d5_20) rfl k) ?_
  show own_G p e below _ T31 (mkF m 21 #[.val (.ref a1), .val (.int (own_acc W 30)), .val (.int (30 : Int32))] [(.int (30 : Int32)), (.ref a_GENERAL_DIGIT_WEIGHTS), (.int ((W 30) - (48 : Int32))), (.int (own_acc W 30))])
  refine own_go (X31.iaload hx (j := (30 : Int32)) (v := (.int (7 : Int32))) (own_cellAt e31 A_GENERAL_DIGIT_WEIGHTS) (State.isArrayOf_alike hZ.alike A_GENERAL_DIGIT_WEIGHTS.2.1) A_GENERAL_DIGIT_WEIGHTS.2.2 (own_in Z_GENERAL_DIGIT_WEIGHTS (by decide)) V_GENERAL_DIGIT_WEIGHTS_30 (g := (mkF m 21 #[.val (.ref a1), .val (.int (own_acc W 30)), .val (.int (30 : Int32))] [(.int (30 : Int32)), (.ref a_GENERAL_DIGIT_WEIGHTS), (.int ((W 30) - (48 : Int32))), (.int (own_acc W 30))])) rfl rfl (hb hby d5_21)) ?_
  show own_G p e below _ T31 (mkF m 22 #[.val (.ref a1), .val (.int (own_acc W 30)), .val (.int (30 : Int32))] [(.int (7 : Int32)), (.int ((W 30) - (48 : Int32))), (.int (own_acc W 30))])
  refine own_go (fun t k => XS.imul X31.here hx rfl (hb hby d5_22) rfl k) ?_
  show own_G p e below _ T31 (mkF m 23 #[.val (.ref a1), .val (.int (own_acc W 30)), .val (.int (30 : Int32))] [(.int (((W 30) - (48 : Int32)) * (7 : Int32))), (.int (own_acc W 30))])
  refine own_go (fun t k => XS.iadd X31.here hx rfl (hb hby d5_23) rfl k) ?_
  show own_G p e below _ T31 (mkF m 24 #[.val (.ref a1), .val (.int (own_acc W 30)), .val (.int (30 : Int32))] [(.int (own_acc W 31))])
  refine own_go (fun t k => XS.istoreN X31.here hx rfl (hb hby d5_24) rfl (l' := #[.val (.ref a1), .val (.int (own_acc W 31)), .val (.int (30 : Int32))]) rfl k) ?_
  show own_G p e below _ T31 (mkF m 25 #[.val (.ref a1), .val (.int (own_acc W 31)), .val (.int (30 : Int32))] [])
  refine own_go (fun t k => XS.iinc X31.here hx rfl (hb hby d5_25) rfl (l' := #[.val (.ref a1), .val (.int (own_acc W 31)), .val (.int (31 : Int32))]) rfl k) ?_
  show own_G p e below _ T31 (mkF m 28 #[.val (.ref a1), .val (.int (own_acc W 31)), .val (.int (31 : Int32))] [])
  refine own_go (fun t k => XS.goto X31.here hx rfl (pc0 := 28) (pc' := 4) rfl (hb hby d5_28) (by decide) (by decide) k) ?_
  show own_G p e below _ T31 (mkF m 4 #[.val (.ref a1), .val (.int (own_acc W 31)), .val (.int (31 : Int32))] [])
  refine own_go (fun t k => XS.iloadN X31.here hx rfl (hb hby d5_4) rfl k) ?_
  show own_G p e below _ T31 (mkF m 5 #[.val (.ref a1), .val (.int (own_acc W 31)), .val (.int (31 : Int32))] [(.int (31 : Int32))])
  refine own_go (fun t k => XS.bipush X31.here hx rfl (hb hby d5_5) k) ?_
  show own_G p e below _ T31 (mkF m 7 #[.val (.ref a1), .val (.int (own_acc W 31)), .val (.int (31 : Int32))] [(.int (44 : Int32)), (.int (31 : Int32))])
  refine own_go (fun t k => XS.icmpNo X31.here hx rfl (hb hby d5_7) rfl (by decide) k) ?_
  show own_G p e below _ T31 (mkF m 10 #[.val (.ref a1), .val (.int (own_acc W 31)), .val (.int (31 : Int32))] [])
  refine own_go (fun t k => XS.iloadN X31.here hx rfl (hb hby d5_10) rfl k) ?_
  show own_G p e below _ T31 (mkF m 11 #[.val (.ref a1), .val (.int (own_acc W 31)), .val (.int (31 : Int32))] [(.int (own_acc W 31))])
  refine own_go (fun t k => XS.aloadN X31.here hx rfl (hb hby d5_11) rfl rfl k) ?_
  show own_G p e below _ T31 (mkF m 12 #[.val (.ref a1), .val (.int (own_acc W 31)), .val (.int (31 : Int32))] [(.ref a1), (.int (own_acc W 31))])
  refine own_go (fun t k => XS.iloadN X31.here hx rfl (hb hby d5_12) rfl k) ?_
  show own_G p e below _ T31 (mkF m 13 #[.val (.ref a1), .val (.int (own_acc W 31)), .val (.int (31 : Int32))] [(.int (31 : Int32)), (.ref a1), (.int (own_acc W 31))])
  refine own_go (X31.caload hx (j := (31 : Int32)) (v := .int (W 31)) (own_cellAt e31 Ar) (State.isArrayOf_alike hZ.alike Ar.2.1) Ar.2.2 (own_in hsz (by decide)) (hat 31 (by decide)) (g := (mkF m 13 #[.val (.ref a1), .val (.int (own_acc W 31)), .val (.int (31 : Int32))] [(.int (31 : Int32)), (.ref a1), (.int (own_acc W 31))])) rfl rfl (hb hby d5_13)) ?_
  show own_G p e below _ T31 (mkF m 14 #[.val (.ref a1), .val (.int (own_acc W 31)), .val (.int (31 : Int32))] [(.int (W 31)), (.int (own_acc W 31))])
  refine own_go (fun t k => XS.bipush X31.here hx rfl (hb hby d5_14) k) ?_
  show own_G p e below _ T31 (mkF m 16 #[.val (.ref a1), .val (.int (own_acc W 31)), .val (.int (31 : Int32))] [(.int (48 : Int32)), (.int (W 31)), (.int (own_acc W 31))])
  refine own_go (fun t k => XS.isub X31.here hx rfl (hb hby d5_16) rfl k) ?_
  show own_G p e below _ T31 (mkF m 17 #[.val (.ref a1), .val (.int (own_acc W 31)), .val (.int (31 : Int32))] [(.int ((W 31) - (48 : Int32))), (.int (own_acc W 31))])
  obtain ⟨T32, X32, e32, st32⟩ := getS X31 hx hZ hown (host := "") (hw _ (List.mem_of_getElem? (i := 20) rfl)) Via.refl e31 S_GENERAL_DIGIT_WEIGHTS (g := (mkF m 17 #[.val (.ref a1), .val (.int (own_acc W 31)), .val (.int (31 : Int32))] [(.int ((W 31) - (48 : Int32))), (.int (own_acc W 31))])) rfl (hb hby d5_17)
  refine own_go st32 ?_
  show own_G p e below _ T32 (mkF m 20 #[.val (.ref a1), .val (.int (own_acc W 31)), .val (.int (31 : Int32))] [(.ref a_GENERAL_DIGIT_WEIGHTS), (.int ((W 31) - (48 : Int32))), (.int (own_acc W 31))])
  refine own_go (fun t k => XS.iloadN X32.here hx rfl (hb hby d5_20) rfl k) ?_
  show own_G p e below _ T32 (mkF m 21 #[.val (.ref a1), .val (.int (own_acc W 31)), .val (.int (31 : Int32))] [(.int (31 : Int32)), (.ref a_GENERAL_DIGIT_WEIGHTS), (.int ((W 31) - (48 : Int32))), (.int (own_acc W 31))])
  refine own_go (X32.iaload hx (j := (31 : Int32)) (v := (.int (6 : Int32))) (own_cellAt e32 A_GENERAL_DIGIT_WEIGHTS) (State.isArrayOf_alike hZ.alike A_GENERAL_DIGIT_WEIGHTS.2.1) A_GENERAL_DIGIT_WEIGHTS.2.2 (own_in Z_GENERAL_DIGIT_WEIGHTS (by decide)) V_GENERAL_DIGIT_WEIGHTS_31 (g := (mkF m 21 #[.val (.ref a1), .val (.int (own_acc W 31)), .val (.int (31 : Int32))] [(.int (31 : Int32)), (.ref a_GENERAL_DIGIT_WEIGHTS), (.int ((W 31) - (48 : Int32))), (.int (own_acc W 31))])) rfl rfl (hb hby d5_21)) ?_
  show own_G p e below _ T32 (mkF m 22 #[.val (.ref a1), .val (.int (own_acc W 31)), .val (.int (31 : Int32))] [(.int (6 : Int32)), (.int ((W 31) - (48 : Int32))), (.int (own_acc W 31))])
  refine own_go (fun t k => XS.imul X32.here hx rfl (hb hby d5_22) rfl k) ?_
  show own_G p e below _ T32 (mkF m 23 #[.val (.ref a1), .val (.int (own_acc W 31)), .val (.int (31 : Int32))] [(.int (((W 31) - (48 : Int32)) * (6 : Int32))), (.int (own_acc W 31))])
  refine own_go (fun t k => XS.iadd X32.here hx rfl (hb hby d5_23) rfl k) ?_
  show own_G p e below _ T32 (mkF m 24 #[.val (.ref a1), .val (.int (own_acc W 31)), .val (.int (31 : Int32))] [(.int (own_acc W 32))])
  refine own_go (fun t k => XS.istoreN X32.here hx rfl (hb hby d5_24) rfl (l' := #[.val (.ref a1), .val (.int (own_acc W 32)), .val (.int (31 : Int32))]) rfl k) ?_
  show own_G p e below _ T32 (mkF m 25 #[.val (.ref a1), .val (.int (own_acc W 32)), .val (.int (31 : Int32))] [])
  refine own_go (fun t k => XS.iinc X32.here hx rfl (hb hby d5_25) rfl (l' := #[.val (.ref a1), .val (.int (own_acc W 32)), .val (.int (32 : Int32))]) rfl k) ?_
  show own_G p e below _ T32 (mkF m 28 #[.val (.ref a1), .val (.int (own_acc W 32)), .val (.int (32 : Int32))] [])
  refine own_go (fun t k => XS.goto X32.here hx rfl (pc0 := 28) (pc' := 4) rfl (hb hby d5_28) (by decide) (by decide) k) ?_
  show own_G p e below _ T32 (mkF m 4 #[.val (.ref a1), .val (.int (own_acc W 32)), .val (.int (32 : Int32))] [])
  refine own_go (fun t k => XS.iloadN X32.here hx rfl (hb hby d5_4) rfl k) ?_
  show own_G p e below _ T32 (mkF m 5 #[.val (.ref a1), .val (.int (own_acc W 32)), .val (.int (32 : Int32))] [(.int (32 : Int32))])
  refine own_go (fun t k => XS.bipush X32.here hx rfl (hb hby d5_5) k) ?_
  show own_G p e below _ T32 (mkF m 7 #[.val (.ref a1), .val (.int (own_acc W 32)), .val (.int (32 : Int32))] [(.int (44 : Int32)), (.int (32 : Int32))])
  refine own_go (fun t k => XS.icmpNo X32.here hx rfl (hb hby d5_7) rfl (by decide) k) ?_
  show own_G p e below _ T32 (mkF m 10 #[.val (.ref a1), .val (.int (own_acc W 32)), .val (.int (32 : Int32))] [])
  refine own_go (fun t k => XS.iloadN X32.here hx rfl (hb hby d5_10) rfl k) ?_
  show own_G p e below _ T32 (mkF m 11 #[.val (.ref a1), .val (.int (own_acc W 32)), .val (.int (32 : Int32))] [(.int (own_acc W 32))])
  refine own_go (fun t k => XS.aloadN X32.here hx rfl (hb hby d5_11) rfl rfl k) ?_
  show own_G p e below _ T32 (mkF m 12 #[.val (.ref a1), .val (.int (own_acc W 32)), .val (.int (32 : Int32))] [(.ref a1), (.int (own_acc W 32))])
  refine own_go (fun t k => XS.iloadN X32.here hx rfl (hb hby d5_12) rfl k) ?_
  show own_G p e below _ T32 (mkF m 13 #[.val (.ref a1), .val (.int (own_acc W 32)), .val (.int (32 : Int32))] [(.int (32 : Int32)), (.ref a1), (.int (own_acc W 32))])
  refine own_go (X32.caload hx (j := (32 : Int32)) (v := .int (W 32)) (own_cellAt e32 Ar) (State.isArrayOf_alike hZ.alike Ar.2.1) Ar.2.2 (own_in hsz (by decide)) (hat 32 (by decide)) (g := (mkF m 13 #[.val (.ref a1), .val (.int (own_acc W 32)), .val (.int (32 : Int32))] [(.int (32 : Int32)), (.ref a1), (.int (own_acc W 32))])) rfl rfl (hb hby d5_13)) ?_
  show own_G p e below _ T32 (mkF m 14 #[.val (.ref a1), .val (.int (own_acc W 32)), .val (.int (32 : Int32))] [(.int (W 32)), (.int (own_acc W 32))])
  refine own_go (fun t k => XS.bipush X32.here hx rfl (hb hby d5_14) k) ?_
  show own_G p e below _ T32 (mkF m 16 #[.val (.ref a1), .val (.int (own_acc W 32)), .val (.int (32 : Int32))] [(.int (48 : Int32)), (.int (W 32)), (.int (own_acc W 32))])
  refine own_go (fun t k => XS.isub X32.here hx rfl (hb hby d5_16) rfl k) ?_
  show own_G p e below _ T32 (mkF m 17 #[.val (.ref a1), .val (.int (own_acc W 32)), .val (.int (32 : Int32))] [(.int ((W 32) - (48 : Int32))), (.int (own_acc W 32))])
  obtain ⟨T33, X33, e33, st33⟩ := getS X32 hx hZ hown (host := "") (hw _ (List.mem_of_getElem? (i := 20) rfl)) Via.refl e32 S_GENERAL_DIGIT_WEIGHTS (g := (mkF m 17 #[.val (.ref a1), .val (.int (own_acc W 32)), .val (.int (32 : Int32))] [(.int ((W 32) - (48 : Int32))), (.int (own_acc W 32))])) rfl (hb hby d5_17)
  refine own_go st33 ?_
  show own_G p e below _ T33 (mkF m 20 #[.val (.ref a1), .val (.int (own_acc W 32)), .val (.int (32 : Int32))] [(.ref a_GENERAL_DIGIT_WEIGHTS), (.int ((W 32) - (48 : Int32))), (.int (own_acc W 32))])
  refine own_go (fun t k => XS.iloadN X33.here hx rfl (hb hby d5_20) rfl k) ?_
  show own_G p e below _ T33 (mkF m 21 #[.val (.ref a1), .val (.int (own_acc W 32)), .val (.int (32 : Int32))] [(.int (32 : Int32)), (.ref a_GENERAL_DIGIT_WEIGHTS), (.int ((W 32) - (48 : Int32))), (.int (own_acc W 32))])
  refine own_go (X33.iaload hx (j := (32 : Int32)) (v := (.int (5 : Int32))) (own_cellAt e33 A_GENERAL_DIGIT_WEIGHTS) (State.isArrayOf_alike hZ.alike A_GENERAL_DIGIT_WEIGHTS.2.1) A_GENERAL_DIGIT_WEIGHTS.2.2 (own_in Z_GENERAL_DIGIT_WEIGHTS (by decide)) V_GENERAL_DIGIT_WEIGHTS_32 (g := (mkF m 21 #[.val (.ref a1), .val (.int (own_acc W 32)), .val (.int (32 : Int32))] [(.int (32 : Int32)), (.ref a_GENERAL_DIGIT_WEIGHTS), (.int ((W 32) - (48 : Int32))), (.int (own_acc W 32))])) rfl rfl (hb hby d5_21)) ?_
  show own_G p e below _ T33 (mkF m 22 #[.val (.ref a1), .val (.int (own_acc W 32)), .val (.int (32 : Int32))] [(.int (5 : Int32)), (.int ((W 32) - (48 : Int32))), (.int (own_acc W 32))])
  refine own_go (fun t k => XS.imul X33.here hx rfl (hb hby d5_22) rfl k) ?_
  show own_G p e below _ T33 (mkF m 23 #[.val (.ref a1), .val (.int (own_acc W 32)), .val (.int (32 : Int32))] [(.int (((W 32) - (48 : Int32)) * (5 : Int32))), (.int (own_acc W 32))])
  refine own_go (fun t k => XS.iadd X33.here hx rfl (hb hby d5_23) rfl k) ?_
  show own_G p e below _ T33 (mkF m 24 #[.val (.ref a1), .val (.int (own_acc W 32)), .val (.int (32 : Int32))] [(.int (own_acc W 33))])
  refine own_go (fun t k => XS.istoreN X33.here hx rfl (hb hby d5_24) rfl (l' := #[.val (.ref a1), .val (.int (own_acc W 33)), .val (.int (32 : Int32))]) rfl k) ?_
  show own_G p e below _ T33 (mkF m 25 #[.val (.ref a1), .val (.int (own_acc W 33)), .val (.int (32 : Int32))] [])
  refine own_go (fun t k => XS.iinc X33.here hx rfl (hb hby d5_25) rfl (l' := #[.val (.ref a1), .val (.int (own_acc W 33)), .val (.int (33 : Int32))]) rfl k) ?_
  show own_G p e below _ T33 (mkF m 28 #[.val (.ref a1), .val (.int (own_acc W 33)), .val (.int (33 : Int32))] [])
  refine own_go (fun t k => XS.goto X33.here hx rfl (pc0 := 28) (pc' := 4) rfl (hb hby d5_28) (by decide) (by decide) k) ?_
  show own_G p e below _ T33 (mkF m 4 #[.val (.ref a1), .val (.int (own_acc W 33)), .val (.int (33 : Int32))] [])
  refine own_go (fun t k => XS.iloadN X33.here hx rfl (hb hby d5_4) rfl k) ?_
  show own_G p e below _ T33 (mkF m 5 #[.val (.ref a1), .val (.int (own_acc W 33)), .val (.int (33 : Int32))] [(.int (33 : Int32))])
  refine own_go (fun t k => XS.bipush X33.here hx rfl (hb hby d5_5) k) ?_
  show own_G p e below _ T33 (mkF m 7 #[.val (.ref a1), .val (.int (own_acc W 33)), .val (.int (33 : Int32))] [(.int (44 : Int32)), (.int (33 : Int32))])
  refine own_go (fun t k => XS.icmpNo X33.here hx rfl (hb hby d5_7) rfl (by decide) k) ?_
  show own_G p e below _ T33 (mkF m 10 #[.val (.ref a1), .val (.int (own_acc W 33)), .val (.int (33 : Int32))] [])
  refine own_go (fun t k => XS.iloadN X33.here hx rfl (hb hby d5_10) rfl k) ?_
  show own_G p e below _ T33 (mkF m 11 #[.val (.ref a1), .val (.int (own_acc W 33)), .val (.int (33 : Int32))] [(.int (own_acc W 33))])
  refine own_go (fun t k => XS.aloadN X33.here hx rfl (hb hby d5_11) rfl rfl k) ?_
  show own_G p e below _ T33 (mkF m 12 #[.val (.ref a1), .val (.int (own_acc W 33)), .val (.int (33 : Int32))] [(.ref a1), (.int (own_acc W 33))])
  refine own_go (fun t k => XS.iloadN X33.here hx rfl (hb hby d5_12) rfl k) ?_
  show own_G p e below _ T33 (mkF m 13 #[.val (.ref a1), .val (.int (own_acc W 33)), .val (.int (33 : Int32))] [(.int (33 : Int32)), (.ref a1), (.int (own_acc W 33))])
  refine own_go (X33.caload hx (j := (33 : Int32)) (v := .int (W 33)) (own_cellAt e33 Ar) (State.isArrayOf_alike hZ.alike Ar.2.1) Ar.2.2 (own_in hsz (by decide)) (hat 33 (by decide)) (g := (mkF m 13 #[.val (.ref a1), .val (.int (own_acc W 33)), .val (.int (33 : Int32))] [(.int (33 : Int32)), (.ref a1), (.int (own_acc W 33))])) rfl rfl (hb hby d5_13)) ?_
  show own_G p e below _ T33 (mkF m 14 #[.val (.ref a1), .val (.int (own_acc W 33)), .val (.int (33 : Int32))] [(.int (W 33)), (.int (own_acc W 33))])
  refine own_go (fun t k => XS.bipush X33.here hx rfl (hb hby d5_14) k) ?_
  show own_G p e below _ T33 (mkF m 16 #[.val (.ref a1), .val (.int (own_acc W 33)), .val (.int (33 : Int32))] [(.int (48 : Int32)), (.int (W 33)), (.int (own_acc W 33))])
  refine own_go (fun t k => XS.isub X33.here hx rfl (hb hby d5_16) rfl k) ?_
  show own_G p e below _ T33 (mkF m 17 #[.val (.ref a1), .val (.int (own_acc W 33)), .val (.int (33 : Int32))] [(.int ((W 33) - (48 : Int32))), (.int (own_acc W 33))])
  obtain ⟨T34, X34, e34, st34⟩ := getS X33 hx hZ hown (host := "") (hw _ (List.mem_of_getElem? (i := 20) rfl)) Via.refl e33 S_GENERAL_DIGIT_WEIGHTS (g := (mkF m 17 #[.val (.ref a1), .val (.int (own_acc W 33)), .val (.int (33 : Int32))] [(.int ((W 33) - (48 : Int32))), (.int (own_acc W 33))])) rfl (hb hby d5_17)
  refine own_go st34 ?_
  show own_G p e below _ T34 (mkF m 20 #[.val (.ref a1), .val (.int (own_acc W 33)), .val (.int (33 : Int32))] [(.ref a_GENERAL_DIGIT_WEIGHTS), (.int ((W 33) - (48 : Int32))), (.int (own_acc W 33))])
  refine own_go (fun t k => XS.iloadN X34.here hx rfl (hb hby d5_20) rfl k) ?_
  show own_G p e below _ T34 (mkF m 21 #[.val (.ref a1), .val (.int (own_acc W 33)), .val (.int (33 : Int32))] [(.int (33 : Int32)), (.ref a_GENERAL_DIGIT_WEIGHTS), (.int ((W 33) - (48 : Int32))), (.int (own_acc W 33))])
  refine own_go (X34.iaload hx (j := (33 : Int32)) (v := (.int (4 : Int32))) (own_cellAt e34 A_GENERAL_DIGIT_WEIGHTS) (State.isArrayOf_alike hZ.alike A_GENERAL_DIGIT_WEIGHTS.2.1) A_GENERAL_DIGIT_WEIGHTS.2.2 (own_in Z_GENERAL_DIGIT_WEIGHTS (by decide)) V_GENERAL_DIGIT_WEIGHTS_33 (g := (mkF m 21 #[.val (.ref a1), .val (.int (own_acc W 33)), .val (.int (33 : Int32))] [(.int (33 : Int32)), (.ref a_GENERAL_DIGIT_WEIGHTS), (.int ((W 33) - (48 : Int32))), (.int (own_acc W 33))])) rfl rfl (hb hby d5_21)) ?_
  show own_G p e below _ T34 (mkF m 22 #[.val (.ref a1), .val (.int (own_acc W 33)), .val (.int (33 : Int32))] [(.int (4 : Int32)), (.int ((W 33) - (48 : Int32))), (.int (own_acc W 33))])
  refine own_go (fun t k => XS.imul X34.here hx rfl (hb hby d5_22) rfl k) ?_
  show own_G p e below _ T34 (mkF m 23 #[.val (.ref a1), .val (.int (own_acc W 33)), .val (.int (33 : Int32))] [(.int (((W 33) - (48 : Int32)) * (4 : Int32))), (.int (own_acc W 33))])
  refine own_go (fun t k => XS.iadd X34.here hx rfl (hb hby d5_23) rfl k) ?_
  show own_G p e below _ T34 (mkF m 24 #[.val (.ref a1), .val (.int (own_acc W 33)), .val (.int (33 : Int32))] [(.int (own_acc W 34))])
  refine own_go (fun t k => XS.istoreN X34.here hx rfl (hb hby d5_24) rfl (l' := #[.val (.ref a1), .val (.int (own_acc W 34)), .val (.int (33 : Int32))]) rfl k) ?_
  show own_G p e below _ T34 (mkF m 25 #[.val (.ref a1), .val (.int (own_acc W 34)), .val (.int (33 : Int32))] [])
  refine own_go (fun t k => XS.iinc X34.here hx rfl (hb hby d5_25) rfl (l' := #[.val (.ref a1), .val (.int (own_acc W 34)), .val (.int (34 : Int32))]) rfl k) ?_
  show own_G p e below _ T34 (mkF m 28 #[.val (.ref a1), .val (.int (own_acc W 34)), .val (.int (34 : Int32))] [])
  refine own_go (fun t k => XS.goto X34.here hx rfl (pc0 := 28) (pc' := 4) rfl (hb hby d5_28) (by decide) (by decide) k) ?_
  show own_G p e below _ T34 (mkF m 4 #[.val (.ref a1), .val (.int (own_acc W 34)), .val (.int (34 : Int32))] [])
  refine own_go (fun t k => XS.iloadN X34.here hx rfl (hb hby d5_4) rfl k) ?_
  show own_G p e below _ T34 (mkF m 5 #[.val (.ref a1), .val (.int (own_acc W 34)), .val (.int (34 : Int32))] [(.int (34 : Int32))])
  refine own_go (fun t k => XS.bipush X34.here hx rfl (hb hby d5_5) k) ?_
  show own_G p e below _ T34 (mkF m 7 #[.val (.ref a1), .val (.int (own_acc W 34)), .val (.int (34 : Int32))] [(.int (44 : Int32)), (.int (34 : Int32))])
  refine own_go (fun t k => XS.icmpNo X34.here hx rfl (hb hby d5_7) rfl (by decide) k) ?_
  show own_G p e below _ T34 (mkF m 10 #[.val (.ref a1), .val (.int (own_acc W 34)), .val (.int (34 : Int32))] [])
  refine own_go (fun t k => XS.iloadN X34.here hx rfl (hb hby d5_10) rfl k) ?_
  show own_G p e below _ T34 (mkF m 11 #[.val (.ref a1), .val (.int (own_acc W 34)), .val (.int (34 : Int32))] [(.int (own_acc W 34))])
  refine own_go (fun t k => XS.aloadN X34.here hx rfl (hb hby d5_11) rfl rfl k) ?_
  show own_G p e below _ T34 (mkF m 12 #[.val (.ref a1), .val (.int (own_acc W 34)), .val (.int (34 : Int32))] [(.ref a1), (.int (own_acc W 34))])
  refine own_go (fun t k => XS.iloadN X34.here hx rfl (hb hby d5_12) rfl k) ?_
  show own_G p e below _ T34 (mkF m 13 #[.val (.ref a1), .val (.int (own_acc W 34)), .val (.int (34 : Int32))] [(.int (34 : Int32)), (.ref a1), (.int (own_acc W 34))])
  refine own_go (X34.caload hx (j := (34 : Int32)) (v := .int (W 34)) (own_cellAt e34 Ar) (State.isArrayOf_alike hZ.alike Ar.2.1) Ar.2.2 (own_in hsz (by decide)) (hat 34 (by decide)) (g := (mkF m 13 #[.val (.ref a1), .val (.int (own_acc W 34)), .val (.int (34 : Int32))] [(.int (34 : Int32)), (.ref a1), (.int (own_acc W 34))])) rfl rfl (hb hby d5_13)) ?_
  show own_G p e below _ T34 (mkF m 14 #[.val (.ref a1), .val (.int (own_acc W 34)), .val (.int (34 : Int32))] [(.int (W 34)), (.int (own_acc W 34))])
  refine own_go (fun t k => XS.bipush X34.here hx rfl (hb hby d5_14) k) ?_
  show own_G p e below _ T34 (mkF m 16 #[.val (.ref a1), .val (.int (own_acc W 34)), .val (.int (34 : Int32))] [(.int (48 : Int32)), (.int (W 34)), (.int (own_acc W 34))])
  refine own_go (fun t k => XS.isub X34.here hx rfl (hb hby d5_16) rfl k) ?_
  show own_G p e below _ T34 (mkF m 17 #[.val (.ref a1), .val (.int (own_acc W 34)), .val (.int (34 : Int32))] [(.int ((W 34) - (48 : Int32))), (.int (own_acc W 34))])
  obtain ⟨T35, X35, e35, st35⟩ := getS X34 hx hZ hown (host := "") (hw _ (List.mem_of_getElem? (i := 20) rfl)) Via.refl e34 S_GENERAL_DIGIT_WEIGHTS (g := (mkF m 17 #[.val (.ref a1), .val (.int (own_acc W 34)), .val (.int (34 : Int32))] [(.int ((W 34) - (48 : Int32))), (.int (own_acc W 34))])) rfl (hb hby d5_17)
  refine own_go st35 ?_
  show own_G p e below _ T35 (mkF m 20 #[.val (.ref a1), .val (.int (own_acc W 34)), .val (.int (34 : Int32))] [(.ref a_GENERAL_DIGIT_WEIGHTS), (.int ((W 34) - (48 : Int32))), (.int (own_acc W 34))])
  refine own_go (fun t k => XS.iloadN X35.here hx rfl (hb hby d5_20) rfl k) ?_
  show own_G p e below _ T35 (mkF m 21 #[.val (.ref a1), .val (.int (own_acc W 34)), .val (.int (34 : Int32))] [(.int (34 : Int32)), (.ref a_GENERAL_DIGIT_WEIGHTS), (.int ((W 34) - (48 : Int32))), (.int (own_acc W 34))])
  refine own_go (X35.iaload hx (j := (34 : Int32)) (v := (.int (3 : Int32))) (own_cellAt e35 A_GENERAL_DIGIT_WEIGHTS) (State.isArrayOf_alike hZ.alike A_GENERAL_DIGIT_WEIGHTS.2.1) A_GENERAL_DIGIT_WEIGHTS.2.2 (own_in Z_GENERAL_DIGIT_WEIGHTS (by decide)) V_GENERAL_DIGIT_WEIGHTS_34 (g := (mkF m 21 #[.val (.ref a1), .val (.int (own_acc W 34)), .val (.int (34 : Int32))] [(.int (34 : Int32)), (.ref a_GENERAL_DIGIT_WEIGHTS), (.int ((W 34) - (48 : Int32))), (.int (own_acc W 34))])) rfl rfl (hb hby d5_21)) ?_
  show own_G p e below _ T35 (mkF m 22 #[.val (.ref a1), .val (.int (own_acc W 34)), .val (.int (34 : Int32))] [(.int (3 : Int32)), (.int ((W 34) - (48 : Int32))), (.int (own_acc W 34))])
  refine own_go (fun t k => XS.imul X35.here hx rfl (hb hby d5_22) rfl k) ?_
  show own_G p e below _ T35 (mkF m 23 #[.val (.ref a1), .val (.int (own_acc W 34)), .val (.int (34 : Int32))] [(.int (((W 34) - (48 : Int32)) * (3 : Int32))), (.int (own_acc W 34))])
  refine own_go (fun t k => XS.iadd X35.here hx rfl (hb hby d5_23) rfl k) ?_
  show own_G p e below _ T35 (mkF m 24 #[.val (.ref a1), .val (.int (own_acc W 34)), .val (.int (34 : Int32))] [(.int (own_acc W 35))])
  refine own_go (fun t k => XS.istoreN X35.here hx rfl (hb hby d5_24) rfl (l' := #[.val (.ref a1), .val (.int (own_acc W 35)), .val (.int (34 : Int32))]) rfl k) ?_
  show own_G p e below _ T35 (mkF m 25 #[.val (.ref a1), .val (.int (own_acc W 35)), .val (.int (34 : Int32))] [])
  refine own_go (fun t k => XS.iinc X35.here hx rfl (hb hby d5_25) rfl (l' := #[.val (.ref a1), .val (.int (own_acc W 35)), .val (.int (35 : Int32))]) rfl k) ?_
  show own_G p e below _ T35 (mkF m 28 #[.val (.ref a1), .val (.int (own_acc W 35)), .val (.int (35 : Int32))] [])
  refine own_go (fun t k => XS.goto X35.here hx rfl (pc0 := 28) (pc' := 4) rfl (hb hby d5_28) (by decide) (by decide) k) ?_
  show own_G p e below _ T35 (mkF m 4 #[.val (.ref a1), .val (.int (own_acc W 35)), .val (.int (35 : Int32))] [])
  refine own_go (fun t k => XS.iloadN X35.here hx rfl (hb hby d5_4) rfl k) ?_
  show own_G p e below _ T35 (mkF m 5 #[.val (.ref a1), .val (.int (own_acc W 35)), .val (.int (35 : Int32))] [(.int (35 : Int32))])
  refine own_go (fun t k => XS.bipush X35.here hx rfl (hb hby d5_5) k) ?_
  show own_G p e below _ T35 (mkF m 7 #[.val (.ref a1), .val (.int (own_acc W 35)), .val (.int (35 : Int32))] [(.int (44 : Int32)), (.int (35 : Int32))])
  refine own_go (fun t k => XS.icmpNo X35.here hx rfl (hb hby d5_7) rfl (by decide) k) ?_
  show own_G p e below _ T35 (mkF m 10 #[.val (.ref a1), .val (.int (own_acc W 35)), .val (.int (35 : Int32))] [])
  refine own_go (fun t k => XS.iloadN X35.here hx rfl (hb hby d5_10) rfl k) ?_
  show own_G p e below _ T35 (mkF m 11 #[.val (.ref a1), .val (.int (own_acc W 35)), .val (.int (35 : Int32))] [(.int (own_acc W 35))])
  refine own_go (fun t k => XS.aloadN X35.here hx rfl (hb hby d5_11) rfl rfl k) ?_
  show own_G p e below _ T35 (mkF m 12 #[.val (.ref a1), .val (.int (own_acc W 35)), .val (.int (35 : Int32))] [(.ref a1), (.int (own_acc W 35))])
  refine own_go (fun t k => XS.iloadN X35.here hx rfl (hb hby d5_12) rfl k) ?_
  show own_G p e below _ T35 (mkF m 13 #[.val (.ref a1), .val (.int (own_acc W 35)), .val (.int (35 : Int32))] [(.int (35 : Int32)), (.ref a1), (.int (own_acc W 35))])
  refine own_go (X35.caload hx (j := (35 : Int32)) (v := .int (W 35)) (own_cellAt e35 Ar) (State.isArrayOf_alike hZ.alike Ar.2.1) Ar.2.2 (own_in hsz (by decide)) (hat 35 (by decide)) (g := (mkF m 13 #[.val (.ref a1), .val (.int (own_acc W 35)), .val (.int (35 : Int32))] [(.int (35 : Int32)), (.ref a1), (.int (own_acc W 35))])) rfl rfl (hb hby d5_13)) ?_
  show own_G p e below _ T35 (mkF m 14 #[.val (.ref a1), .val (.int (own_acc W 35)), .val (.int (35 : Int32))] [(.int (W 35)), (.int (own_acc W 35))])
  refine own_go (fun t k => XS.bipush X35.here hx rfl (hb hby d5_14) k) ?_
  show own_G p e below _ T35 (mkF m 16 #[.val (.ref a1), .val (.int (own_acc W 35)), .val (.int (35 : Int32))] [(.int (48 : Int32)), (.int (W 35)), (.int (own_acc W 35))])
  refine own_go (fun t k => XS.isub X35.here hx rfl (hb hby d5_16) rfl k) ?_
  show own_G p e below _ T35 (mkF m 17 #[.val (.ref a1), .val (.int (own_acc W 35)), .val (.int (35 : Int32))] [(.int ((W 35) - (48 : Int32))), (.int (own_acc W 35))])
  obtain ⟨T36, X36, e36, st36⟩ := getS X35 hx hZ hown (host := "") (hw _ (List.mem_of_getElem? (i := 20) rfl)) Via.refl e35 S_GENERAL_DIGIT_WEIGHTS (g := (mkF m 17 #[.val (.ref a1), .val (.int (own_acc W 35)), .val (.int (35 : Int32))] [(.int ((W 35) - (48 : Int32))), (.int (own_acc W 35))])) rfl (hb hby d5_17)
  refine own_go st36 ?_
  show own_G p e below _ T36 (mkF m 20 #[.val (.ref a1), .val (.int (own_acc W 35)), .val (.int (35 : Int32))] [(.ref a_GENERAL_DIGIT_WEIGHTS), (.int ((W 35) - (48 : Int32))), (.int (own_acc W 35))])
  refine own_go (fun t k => XS.iloadN X36.here hx rfl (hb hby d5_20) rfl k) ?_
  show own_G p e below _ T36 (mkF m 21 #[.val (.ref a1), .val (.int (own_acc W 35)), .val (.int (35 : Int32))] [(.int (35 : Int32)), (.ref a_GENERAL_DIGIT_WEIGHTS), (.int ((W 35) - (48 : Int32))), (.int (own_acc W 35))])
  refine own_go (X36.iaload hx (j := (35 : Int32)) (v := (.int (2 : Int32))) (own_cellAt e36 A_GENERAL_DIGIT_WEIGHTS) (State.isArrayOf_alike hZ.alike A_GENERAL_DIGIT_WEIGHTS.2.1) A_GENERAL_DIGIT_WEIGHTS.2.2 (own_in Z_GENERAL_DIGIT_WEIGHTS (by decide)) V_GENERAL_DIGIT_WEIGHTS_35 (g := (mkF m 21 #[.val (.ref a1), .val (.int (own_acc W 35)), .val (.int (35 : Int32))] [(.int (35 : Int32)), (.ref a_GENERAL_DIGIT_WEIGHTS), (.int ((W 35) - (48 : Int32))), (.int (own_acc W 35))])) rfl rfl (hb hby d5_21)) ?_
  show own_G p e below _ T36 (mkF m 22 #[.val (.ref a1), .val (.int (own_acc W 35)), .val (.int (35 : Int32))] [(.int (2 : Int32)), (.int ((W 35) - (48 : Int32))), (.int (own_acc W 35))])
  refine own_go (fun t k => XS.imul X36.here hx rfl (hb hby d5_22) rfl k) ?_
  show own_G p e below _ T36 (mkF m 23 #[.val (.ref a1), .val (.int (own_acc W 35)), .val (.int (35 : Int32))] [(.int (((W 35) - (48 : Int32)) * (2 : Int32))), (.int (own_acc W 35))])
  refine own_go (fun t k => XS.iadd X36.here hx rfl (hb hby d5_23) rfl k) ?_
  show own_G p e below _ T36 (mkF m 24 #[.val (.ref a1), .val (.int (own_acc W 35)), .val (.int (35 : Int32))] [(.int (own_acc W 36))])
  refine own_go (fun t k => XS.istoreN X36.here hx rfl (hb hby d5_24) rfl (l' := #[.val (.ref a1), .val (.int (own_acc W 36)), .val (.int (35 : Int32))]) rfl k) ?_
  show own_G p e below _ T36 (mkF m 25 #[.val (.ref a1), .val (.int (own_acc W 36)), .val (.int (35 : Int32))] [])
  refine own_go (fun t k => XS.iinc X36.here hx rfl (hb hby d5_25) rfl (l' := #[.val (.ref a1), .val (.int (own_acc W 36)), .val (.int (36 : Int32))]) rfl k) ?_
  show own_G p e below _ T36 (mkF m 28 #[.val (.ref a1), .val (.int (own_acc W 36)), .val (.int (36 : Int32))] [])
  refine own_go (fun t k => XS.goto X36.here hx rfl (pc0 := 28) (pc' := 4) rfl (hb hby d5_28) (by decide) (by decide) k) ?_
  show own_G p e below _ T36 (mkF m 4 #[.val (.ref a1), .val (.int (own_acc W 36)), .val (.int (36 : Int32))] [])
  refine own_go (fun t k => XS.iloadN X36.here hx rfl (hb hby d5_4) rfl k) ?_
  show own_G p e below _ T36 (mkF m 5 #[.val (.ref a1), .val (.int (own_acc W 36)), .val (.int (36 : Int32))] [(.int (36 : Int32))])
  refine own_go (fun t k => XS.bipush X36.here hx rfl (hb hby d5_5) k) ?_
  show own_G p e below _ T36 (mkF m 7 #[.val (.ref a1), .val (.int (own_acc W 36)), .val (.int (36 : Int32))] [(.int (44 : Int32)), (.int (36 : Int32))])
  refine own_go (fun t k => XS.icmpNo X36.here hx rfl (hb hby d5_7) rfl (by decide) k) ?_
  show own_G p e below _ T36 (mkF m 10 #[.val (.ref a1), .val (.int (own_acc W 36)), .val (.int (36 : Int32))] [])
  refine own_go (fun t k => XS.iloadN X36.here hx rfl (hb hby d5_10) rfl k) ?_
  show own_G p e below _ T36 (mkF m 11 #[.val (.ref a1), .val (.int (own_acc W 36)), .val (.int (36 : Int32))] [(.int (own_acc W 36))])
  refine own_go (fun t k => XS.aloadN X36.here hx rfl (hb hby d5_11) rfl rfl k) ?_
  show own_G p e below _ T36 (mkF m 12 #[.val (.ref a1), .val (.int (own_acc W 36)), .val (.int (36 : Int32))] [(.ref a1), (.int (own_acc W 36))])
  refine own_go (fun t k => XS.iloadN X36.here hx rfl (hb hby d5_12) rfl k) ?_
  show own_G p e below _ T36 (mkF m 13 #[.val (.ref a1), .val (.int (own_acc W 36)), .val (.int (36 : Int32))] [(.int (36 : Int32)), (.ref a1), (.int (own_acc W 36))])
  refine own_go (X36.caload hx (j := (36 : Int32)) (v := .int (W 36)) (own_cellAt e36 Ar) (State.isArrayOf_alike hZ.alike Ar.2.1) Ar.2.2 (own_in hsz (by decide)) (hat 36 (by decide)) (g := (mkF m 13 #[.val (.ref a1), .val (.int (own_acc W 36)), .val (.int (36 : Int32))] [(.int (36 : Int32)), (.ref a1), (.int (own_acc W 36))])) rfl rfl (hb hby d5_13)) ?_
  show own_G p e below _ T36 (mkF m 14 #[.val (.ref a1), .val (.int (own_acc W 36)), .val (.int (36 : Int32))] [(.int (W 36)), (.int (own_acc W 36))])
  refine own_go (fun t k => XS.bipush X36.here hx rfl (hb hby d5_14) k) ?_
  show own_G p e below _ T36 (mkF m 16 #[.val (.ref a1), .val (.int (own_acc W 36)), .val (.int (36 : Int32))] [(.int (48 : Int32)), (.int (W 36)), (.int (own_acc W 36))])
  refine own_go (fun t k => XS.isub X36.here hx rfl (hb hby d5_16) rfl k) ?_
  show own_G p e below _ T36 (mkF m 17 #[.val (.ref a1), .val (.int (own_acc W 36)), .val (.int (36 : Int32))] [(.int ((W 36) - (48 : Int32))), (.int (own_acc W 36))])
  obtain ⟨T37, X37, e37, st37⟩ := getS X36 hx hZ hown (host := "") (hw _ (List.mem_of_getElem? (i := 20) rfl)) Via.refl e36 S_GENERAL_DIGIT_WEIGHTS (g := (mkF m 17 #[.val (.ref a1), .val (.int (own_acc W 36)), .val (.int (36 : Int32))] [(.int ((W 36) - (48 : Int32))), (.int (own_acc W 36))])) rfl (hb hby d5_17)
  refine own_go st37 ?_
  show own_G p e below _ T37 (mkF m 20 #[.val (.ref a1), .val (.int (own_acc W 36)), .val (.int (36 : Int32))] [(.ref a_GENERAL_DIGIT_WEIGHTS), (.int ((W 36) - (48 : Int32))), (.int (own_acc W 36))])
  refine own_go (fun t k => XS.iloadN X37.here hx rfl (hb hby d5_20) rfl k) ?_
  show own_G p e below _ T37 (mkF m 21 #[.val (.ref a1), .val (.int (own_acc W 36)), .val (.int (36 : Int32))] [(.int (36 : Int32)), (.ref a_GENERAL_DIGIT_WEIGHTS), (.int ((W 36) - (48 : Int32))), (.int (own_acc W 36))])
  refine own_go (X37.iaload hx (j := (36 : Int32)) (v := (.int (9 : Int32))) (own_cellAt e37 A_GENERAL_DIGIT_WEIGHTS) (State.isArrayOf_alike hZ.alike A_GENERAL_DIGIT_WEIGHTS.2.1) A_GENERAL_DIGIT_WEIGHTS.2.2 (own_in Z_GENERAL_DIGIT_WEIGHTS (by decide)) V_GENERAL_DIGIT_WEIGHTS_36 (g := (mkF m 21 #[.val (.ref a1), .val (.int (own_acc W 36)), .val (.int (36 : Int32))] [(.int (36 : Int32)), (.ref a_GENERAL_DIGIT_WEIGHTS), (.int ((W 36) - (48 : Int32))), (.int (own_acc W 36))])) rfl rfl (hb hby d5_21)) ?_
  show own_G p e below _ T37 (mkF m 22 #[.val (.ref a1), .val (.int (own_acc W 36)), .val (.int (36 : Int32))] [(.int (9 : Int32)), (.int ((W 36) - (48 : Int32))), (.int (own_acc W 36))])
  refine own_go (fun t k => XS.imul X37.here hx rfl (hb hby d5_22) rfl k) ?_
  show own_G p e below _ T37 (mkF m 23 #[.val (.ref a1), .val (.int (own_acc W 36)), .val (.int (36 : Int32))] [(.int (((W 36) - (48 : Int32)) * (9 : Int32))), (.int (own_acc W 36))])
  refine own_go (fun t k => XS.iadd X37.here hx rfl (hb hby d5_23) rfl k) ?_
  show own_G p e below _ T37 (mkF m 24 #[.val (.ref a1), .val (.int (own_acc W 36)), .val (.int (36 : Int32))] [(.int (own_acc W 37))])
  refine own_go (fun t k => XS.istoreN X37.here hx rfl (hb hby d5_24) rfl (l' := #[.val (.ref a1), .val (.int (own_acc W 37)), .val (.int (36 : Int32))]) rfl k) ?_
  show own_G p e below _ T37 (mkF m 25 #[.val (.ref a1), .val (.int (own_acc W 37)), .val (.int (36 : Int32))] [])
  refine own_go (fun t k => XS.iinc X37.here hx rfl (hb hby d5_25) rfl (l' := #[.val (.ref a1), .val (.int (own_acc W 37)), .val (.int (37 : Int32))]) rfl k) ?_
  show own_G p e below _ T37 (mkF m 28 #[.val (.ref a1), .val (.int (own_acc W 37)), .val (.int (37 : Int32))] [])
  refine own_go (fun t k => XS.goto X37.here hx rfl (pc0 := 28) (pc' := 4) rfl (hb hby d5_28) (by decide) (by decide) k) ?_
  show own_G p e below _ T37 (mkF m 4 #[.val (.ref a1), .val (.int (own_acc W 37)), .val (.int (37 : Int32))] [])
  refine own_go (fun t k => XS.iloadN X37.here hx rfl (hb hby d5_4) rfl k) ?_
  show own_G p e below _ T37 (mkF m 5 #[.val (.ref a1), .val (.int (own_acc W 37)), .val (.int (37 : Int32))] [(.int (37 : Int32))])
  refine own_go (fun t k => XS.bipush X37.here hx rfl (hb hby d5_5) k) ?_
  show own_G p e below _ T37 (mkF m 7 #[.val (.ref a1), .val (.int (own_acc W 37)), .val (.int (37 : Int32))] [(.int (44 : Int32)), (.int (37 : Int32))])
  refine own_go (fun t k => XS.icmpNo X37.here hx rfl (hb hby d5_7) rfl (by decide) k) ?_
  show own_G p e below _ T37 (mkF m 10 #[.val (.ref a1), .val (.int (own_acc W 37)), .val (.int (37 : Int32))] [])
  refine own_go (fun t k => XS.iloadN X37.here hx rfl (hb hby d5_10) rfl k) ?_
  show own_G p e below _ T37 (mkF m 11 #[.val (.ref a1), .val (.int (own_acc W 37)), .val (.int (37 : Int32))] [(.int (own_acc W 37))])
  refine own_go (fun t k => XS.aloadN X37.here hx rfl (hb hby d5_11) rfl rfl k) ?_
  show own_G p e below _ T37 (mkF m 12 #[.val (.ref a1), .val (.int (own_acc W 37)), .val (.int (37 : Int32))] [(.ref a1), (.int (own_acc W 37))])
  refine own_go (fun t k => XS.iloadN X37.here hx rfl (hb hby d5_12) rfl k) ?_
  show own_G p e below _ T37 (mkF m 13 #[.val (.ref a1), .val (.int (own_acc W 37)), .val (.int (37 : Int32))] [(.int (37 : Int32)), (.ref a1), (.int (own_acc W 37))])
  refine own_go (X37.caload hx (j := (37 : Int32)) (v := .int (W 37)) (own_cellAt e37 Ar) (State.isArrayOf_alike hZ.alike Ar.2.1) Ar.2.2 (own_in hsz (by decide)) (hat 37 (by decide)) (g := (mkF m 13 #[.val (.ref a1), .val (.int (own_acc W 37)), .val (.int (37 : Int32))] [(.int (37 : Int32)), (.ref a1), (.int (own_acc W 37))])) rfl rfl (hb hby d5_13)) ?_
  show own_G p e below _ T37 (mkF m 14 #[.val (.ref a1), .val (.int (own_acc W 37)), .val (.int (37 : Int32))] [(.int (W 37)), (.int (own_acc W 37))])
  refine own_go (fun t k => XS.bipush X37.here hx rfl (hb hby d5_14) k) ?_
  show own_G p e below _ T37 (mkF m 16 #[.val (.ref a1), .val (.int (own_acc W 37)), .val (.int (37 : Int32))] [(.int (48 : Int32)), (.int (W 37)), (.int (own_acc W 37))])
  refine own_go (fun t k => XS.isub X37.here hx rfl (hb hby d5_16) rfl k) ?_
  show own_G p e below _ T37 (mkF m 17 #[.val (.ref a1), .val (.int (own_acc W 37)), .val (.int (37 : Int32))] [(.int ((W 37) - (48 : Int32))), (.int (own_acc W 37))])
  obtain ⟨T38, X38, e38, st38⟩ := getS X37 hx hZ hown (host := "") (hw _ (List.mem_of_getElem? (i := 20) rfl)) Via.refl e37 S_GENERAL_DIGIT_WEIGHTS (g := (mkF m 17 #[.val (.ref a1), .val (.int (own_acc W 37)), .val (.int (37 : Int32))] [(.int ((W 37) - (48 : Int32))), (.int (own_acc W 37))])) rfl (hb hby d5_17)
  refine own_go st38 ?_
  show own_G p e below _ T38 (mkF m 20 #[.val (.ref a1), .val (.int (own_acc W 37)), .val (.int (37 : Int32))] [(.ref a_GENERAL_DIGIT_WEIGHTS), (.int ((W 37) - (48 : Int32))), (.int (own_acc W 37))])
  refine own_go (fun t k => XS.iloadN X38.here hx rfl (hb hby d5_20) rfl k) ?_
  show own_G p e below _ T38 (mkF m 21 #[.val (.ref a1), .val (.int (own_acc W 37)), .val (.int (37 : Int32))] [(.int (37 : Int32)), (.ref a_GENERAL_DIGIT_WEIGHTS), (.int ((W 37) - (48 : Int32))), (.int (own_acc W 37))])
  refine own_go (X38.iaload hx (j := (37 : Int32)) (v := (.int (8 : Int32))) (own_cellAt e38 A_GENERAL_DIGIT_WEIGHTS) (State.isArrayOf_alike hZ.alike A_GENERAL_DIGIT_WEIGHTS.2.1) A_GENERAL_DIGIT_WEIGHTS.2.2 (own_in Z_GENERAL_DIGIT_WEIGHTS (by decide)) V_GENERAL_DIGIT_WEIGHTS_37 (g := (mkF m 21 #[.val (.ref a1), .val (.int (own_acc W 37)), .val (.int (37 : Int32))] [(.int (37 : Int32)), (.ref a_GENERAL_DIGIT_WEIGHTS), (.int ((W 37) - (48 : Int32))), (.int (own_acc W 37))])) rfl rfl (hb hby d5_21)) ?_
  show own_G p e below _ T38 (mkF m 22 #[.val (.ref a1), .val (.int (own_acc W 37)), .val (.int (37 : Int32))] [(.int (8 : Int32)), (.int ((W 37) - (48 : Int32))), (.int (own_acc W 37))])
  refine own_go (fun t k => XS.imul X38.here hx rfl (hb hby d5_22) rfl k) ?_
  show own_G p e below _ T38 (mkF m 23 #[.val (.ref a1), .val (.int (own_acc W 37)), .val (.int (37 : Int32))] [(.int (((W 37) - (48 : Int32)) * (8 : Int32))), (.int (own_acc W 37))])
  refine own_go (fun t k => XS.iadd X38.here hx rfl (hb hby d5_23) rfl k) ?_
  show own_G p e below _ T38 (mkF m 24 #[.val (.ref a1), .val (.int (own_acc W 37)), .val (.int (37 : Int32))] [(.int (own_acc W 38))])
  refine own_go (fun t k => XS.istoreN X38.here hx rfl (hb hby d5_24) rfl (l' := #[.val (.ref a1), .val (.int (own_acc W 38)), .val (.int (37 : Int32))]) rfl k) ?_
  show own_G p e below _ T38 (mkF m 25 #[.val (.ref a1), .val (.int (own_acc W 38)), .val (.int (37 : Int32))] [])
  refine own_go (fun t k => XS.iinc X38.here hx rfl (hb hby d5_25) rfl (l' := #[.val (.ref a1), .val (.int (own_acc W 38)), .val (.int (38 : Int32))]) rfl k) ?_
  show own_G p e below _ T38 (mkF m 28 #[.val (.ref a1), .val (.int (own_acc W 38)), .val (.int (38 : Int32))] [])
  refine own_go (fun t k => XS.goto X38.here hx rfl (pc0 := 28) (pc' := 4) rfl (hb hby d5_28) (by decide) (by decide) k) ?_
  show own_G p e below _ T38 (mkF m 4 #[.val (.ref a1), .val (.int (own_acc W 38)), .val (.int (38 : Int32))] [])
  refine own_go (fun t k => XS.iloadN X38.here hx rfl (hb hby d5_4) rfl k) ?_
  show own_G p e below _ T38 (mkF m 5 #[.val (.ref a1), .val (.int (own_acc W 38)), .val (.int (38 : Int32))] [(.int (38 : Int32))])
  refine own_go (fun t k => XS.bipush X38.here hx rfl (hb hby d5_5) k) ?_
  show own_G p e below _ T38 (mkF m 7 #[.val (.ref a1), .val (.int (own_acc W 38)), .val (.int (38 : Int32))] [(.int (44 : Int32)), (.int (38 : Int32))])
  refine own_go (fun t k => XS.icmpNo X38.here hx rfl (hb hby d5_7) rfl (by decide) k) ?_
  show own_G p e below _ T38 (mkF m 10 #[.val (.ref a1), .val (.int (own_acc W 38)), .val (.int (38 : Int32))] [])
  refine own_go (fun t k => XS.iloadN X38.here hx rfl (hb hby d5_10) rfl k) ?_
  show own_G p e below _ T38 (mkF m 11 #[.val (.ref a1), .val (.int (own_acc W 38)), .val (.int (38 : Int32))] [(.int (own_acc W 38))])
  refine own_go (fun t k => XS.aloadN X38.here hx rfl (hb hby d5_11) rfl rfl k) ?_
  show own_G p e below _ T38 (mkF m 12 #[.val (.ref a1), .val (.int (own_acc W 38)), .val (.int (38 : Int32))] [(.ref a1), (.int (own_acc W 38))])
  refine own_go (fun t k => XS.iloadN X38.here hx rfl (hb hby d5_12) rfl k) ?_
  show own_G p e below _ T38 (mkF m 13 #[.val (.ref a1), .val (.int (own_acc W 38)), .val (.int (38 : Int32))] [(.int (38 : Int32)), (.ref a1), (.int (own_acc W 38))])
  refine own_go (X38.caload hx (j := (38 : Int32)) (v := .int (W 38)) (own_cellAt e38 Ar) (State.isArrayOf_alike hZ.alike Ar.2.1) Ar.2.2 (own_in hsz (by decide)) (hat 38 (by decide)) (g := (mkF m 13 #[.val (.ref a1), .val (.int (own_acc W 38)), .val (.int (38 : Int32))] [(.int (38 : Int32)), (.ref a1), (.int (own_acc W 38))])) rfl rfl (hb hby d5_13)) ?_
  show own_G p e below _ T38 (mkF m 14 #[.val (.ref a1), .val (.int (own_acc W 38)), .val (.int (38 : Int32))] [(.int (W 38)), (.int (own_acc W 38))])
  refine own_go (fun t k => XS.bipush X38.here hx rfl (hb hby d5_14) k) ?_
  show own_G p e below _ T38 (mkF m 16 #[.val (.ref a1), .val (.int (own_acc W 38)), .val (.int (38 : Int32))] [(.int (48 : Int32)), (.int (W 38)), (.int (own_acc W 38))])
  refine own_go (fun t k => XS.isub X38.here hx rfl (hb hby d5_16) rfl k) ?_
  show own_G p e below _ T38 (mkF m 17 #[.val (.ref a1), .val (.int (own_acc W 38)), .val (.int (38 : Int32))] [(.int ((W 38) - (48 : Int32))), (.int (own_acc W 38))])
  obtain ⟨T39, X39, e39, st39⟩ := getS X38 hx hZ hown (host := "") (hw _ (List.mem_of_getElem? (i := 20) rfl)) Via.refl e38 S_GENERAL_DIGIT_WEIGHTS (g := (mkF m 17 #[.val (.ref a1), .val (.int (own_acc W 38)), .val (.int (38 : Int32))] [(.int ((W 38) - (48 : Int32))), (.int (own_acc W 38))])) rfl (hb hby d5_17)
  refine own_go st39 ?_
  show own_G p e below _ T39 (mkF m 20 #[.val (.ref a1), .val (.int (own_acc W 38)), .val (.int (38 : Int32))] [(.ref a_GENERAL_DIGIT_WEIGHTS), (.int ((W 38) - (48 : Int32))), (.int (own_acc W 38))])
  refine own_go (fun t k => XS.iloadN X39.here hx rfl (hb hby d5_20) rfl k) ?_
  show own_G p e below _ T39 (mkF m 21 #[.val (.ref a1), .val (.int (own_acc W 38)), .val (.int (38 : Int32))] [(.int (38 : Int32)), (.ref a_GENERAL_DIGIT_WEIGHTS), (.int ((W 38) - (48 : Int32))), (.int (own_acc W 38))])
  refine own_go (X39.iaload hx (j := (38 : Int32)) (v := (.int (7 : Int32))) (own_cellAt e39 A_GENERAL_DIGIT_WEIGHTS) (State.isArrayOf_alike hZ.alike A_GENERAL_DIGIT_WEIGHTS.2.1) A_GENERAL_DIGIT_WEIGHTS.2.2 (own_in Z_GENERAL_DIGIT_WEIGHTS (by decide)) V_GENERAL_DIGIT_WEIGHTS_38 (g := (mkF m 21 #[.val (.ref a1), .val (.int (own_acc W 38)), .val (.int (38 : Int32))] [(.int (38 : Int32)), (.ref a_GENERAL_DIGIT_WEIGHTS), (.int ((W 38) - (48 : Int32))), (.int (own_acc W 38))])) rfl rfl (hb hby d5_21)) ?_
  show own_G p e below _ T39 (mkF m 22 #[.val (.ref a1), .val (.int (own_acc W 38)), .val (.int (38 : Int32))] [(.int (7 : Int32)), (.int ((W 38) - (48 : Int32))), (.int (own_acc W 38))])
  refine own_go (fun t k => XS.imul X39.here hx rfl (hb hby d5_22) rfl k) ?_
  show own_G p e below _ T39 (mkF m 23 #[.val (.ref a1), .val (.int (own_acc W 38)), .val (.int (38 : Int32))] [(.int (((W 38) - (48 : Int32)) * (7 : Int32))), (.int (own_acc W 38))])
  refine own_go (fun t k => XS.iadd X39.here hx rfl (hb hby d5_23) rfl k) ?_
  show own_G p e below _ T39 (mkF m 24 #[.val (.ref a1), .val (.int (own_acc W 38)), .val (.int (38 : Int32))] [(.int (own_acc W 39))])
  refine own_go (fun t k => XS.istoreN X39.here hx rfl (hb hby d5_24) rfl (l' := #[.val (.ref a1), .val (.int (own_acc W 39)), .val (.int (38 : Int32))]) rfl k) ?_
  show own_G p e below _ T39 (mkF m 25 #[.val (.ref a1), .val (.int (own_acc W 39)), .val (.int (38 : Int32))] [])
  refine own_go (fun t k => XS.iinc X39.here hx rfl (hb hby d5_25) rfl (l' := #[.val (.ref a1), .val (.int (own_acc W 39)), .val (.int (39 : Int32))]) rfl k) ?_
  show own_G p e below _ T39 (mkF m 28 #[.val (.ref a1), .val (.int (own_acc W 39)), .val (.int (39 : Int32))] [])
  refine own_go (fun t k => XS.goto X39.here hx rfl (pc0 := 28) (pc' := 4) rfl (hb hby d5_28) (by decide) (by decide) k) ?_
  show own_G p e below _ T39 (mkF m 4 #[.val (.ref a1), .val (.int (own_acc W 39)), .val (.int (39 : Int32))] [])
  refine own_go (fun t k => XS.iloadN X39.here hx rfl (hb hby d5_4) rfl k) ?_
  show own_G p e below _ T39 (mkF m 5 #[.val (.ref a1), .val (.int (own_acc W 39)), .val (.int (39 : Int32))] [(.int (39 : Int32))])
  refine own_go (fun t k => XS.bipush X39.here hx rfl (hb hby d5_5) k) ?_
  show own_G p e below _ T39 (mkF m 7 #[.val (.ref a1), .val (.int (own_acc W 39)), .val (.int (39 : Int32))] [(.int (44 : Int32)), (.int (39 : Int32))])
  refine own_go (fun t k => XS.icmpNo X39.here hx rfl (hb hby d5_7) rfl (by decide) k) ?_
  show own_G p e below _ T39 (mkF m 10 #[.val (.ref a1), .val (.int (own_acc W 39)), .val (.int (39 : Int32))] [])
  refine own_go (fun t k => XS.iloadN X39.here hx rfl (hb hby d5_10) rfl k) ?_
  show own_G p e below _ T39 (mkF m 11 #[.val (.ref a1), .val (.int (own_acc W 39)), .val (.int (39 : Int32))] [(.int (own_acc W 39))])
  refine own_go (fun t k => XS.aloadN X39.here hx rfl (hb hby d5_11) rfl rfl k) ?_
  show own_G p e below _ T39 (mkF m 12 #[.val (.ref a1), .val (.int (own_acc W 39)), .val (.int (39 : Int32))] [(.ref a1), (.int (own_acc W 39))])
  refine own_go (fun t k => XS.iloadN X39.here hx rfl (hb hby d5_12) rfl k) ?_
  show own_G p e below _ T39 (mkF m 13 #[.val (.ref a1), .val (.int (own_acc W 39)), .val (.int (39 : Int32))] [(.int (39 : Int32)), (.ref a1), (.int (own_acc W 39))])
  refine own_go (X39.caload hx (j := (39 : Int32)) (v := .int (W 39)) (own_cellAt e39 Ar) (State.isArrayOf_alike hZ.alike Ar.2.1) Ar.2.2 (own_in hsz (by decide)) (hat 39 (by decide)) (g := (mkF m 13 #[.val (.ref a1), .val (.int (own_acc W 39)), .val (.int (39 : Int32))] [(.int (39 : Int32)), (.ref a1), (.int (own_acc W 39))])) rfl rfl (hb hby d5_13)) ?_
  show own_G p e below _ T39 (mkF m 14 #[.val (.ref a1), .val (.int (own_acc W 39)), .val (.int (39 : Int32))] [(.int (W 39)), (.int (own_acc W 39))])
  refine own_go (fun t k => XS.bipush X39.here hx rfl (hb hby d5_14) k) ?_
  show own_G p e below _ T39 (mkF m 16 #[.val (.ref a1), .val (.int (own_acc W 39)), .val (.int (39 : Int32))] [(.int (48 : Int32)), (.int (W 39)), (.int (own_acc W 39))])
  refine own_go (fun t k => XS.isub X39.here hx rfl (hb hby d5_16) rfl k) ?_
  show own_G p e below _ T39 (mkF m 17 #[.val (.ref a1), .val (.int (own_acc W 39)), .val (.int (39 : Int32))] [(.int ((W 39) - (48 : Int32))), (.int (own_acc W 39))])
  obtain ⟨T40, X40, e40, st40⟩ := getS X39 hx hZ hown (host := "") (hw _ (List.mem_of_getElem? (i := 20) rfl)) Via.refl e39 S_GENERAL_DIGIT_WEIGHTS (g := (mkF m 17 #[.val (.ref a1), .val (.int (own_acc W 39)), .val (.int (39 : Int32))] [(.int ((W 39) - (48 : Int32))), (.int (own_acc W 39))])) rfl (hb hby d5_17)
  refine own_go st40 ?_
  show own_G p e below _ T40 (mkF m 20 #[.val (.ref a1), .val (.int (own_acc W 39)), .val (.int (39 : Int32))] [(.ref a_GENERAL_DIGIT_WEIGHTS), (.int ((W 39) - (48 : Int32))), (.int (own_acc W 39))])
  refine own_go (fun t k => XS.iloadN X40.here hx rfl (hb hby d5_20) rfl k) ?_
  show own_G p e below _ T40 (mkF m 21 #[.val (.ref a1), .val (.int (own_acc W 39)), .val (.int (39 : Int32))] [(.int (39 : Int32)), (.ref a_GENERAL_DIGIT_WEIGHTS), (.int ((W 39) - (48 : Int32))), (.int (own_acc W 39))])
  refine own_go (X40.iaload hx (j := (39 : Int32)) (v := (.int (6 : Int32))) (own_cellAt e40 A_GENERAL_DIGIT_WEIGHTS) (State.isArrayOf_alike hZ.alike A_GENERAL_DIGIT_WEIGHTS.2.1) A_GENERAL_DIGIT_WEIGHTS.2.2 (own_in Z_GENERAL_DIGIT_WEIGHTS (by decide)) V_GENERAL_DIGIT_WEIGHTS_39 (g := (mkF m 21 #[.val (.ref a1), .val (.int (own_acc W 39)), .val (.int (39 : Int32))] [(.int (39 : Int32)), (.ref a_GENERAL_DIGIT_WEIGHTS), (.int ((W 39) - (48 : Int32))), (.int (own_acc W 39))])) rfl rfl (hb hby d5_21)) ?_
  show own_G p e below _ T40 (mkF m 22 #[.val (.ref a1), .val (.int (own_acc W 39)), .val (.int (39 : Int32))] [(.int (6 : Int32)), (.int ((W 39) - (48 : Int32))), (.int (own_acc W 39))])
  refine own_go (fun t k => XS.imul X40.here hx rfl (hb hby d5_22) rfl k) ?_
  show own_G p e below _ T40 (mkF m 23 #[.val (.ref a1), .val (.int (own_acc W 39)), .val (.int (39 : Int32))] [(.int (((W 39) - (48 : Int32)) * (6 : Int32))), (.int (own_acc W 39))])
  refine own_go (fun t k => XS.iadd X40.here hx rfl (hb hby d5_23) rfl k) ?_
  show own_G p e below _ T40 (mkF m 24 #[.val (.ref a1), .val (.int (own_acc W 39)), .val (.int (39 : Int32))] [(.int (own_acc W 40))])
  refine own_go (fun t k => XS.istoreN X40.here hx rfl (hb hby d5_24) rfl (l' := #[.val (.ref a1), .val (.int (own_acc W 40)), .val (.int (39 : Int32))]) rfl k) ?_
  show own_G p e below _ T40 (mkF m 25 #[.val (.ref a1), .val (.int (own_acc W 40)), .val (.int (39 : Int32))] [])
  refine own_go (fun t k => XS.iinc X40.here hx rfl (hb hby d5_25) rfl (l' := #[.val (.ref a1), .val (.int (own_acc W 40)), .val (.int (40 : Int32))]) rfl k) ?_
  show own_G p e below _ T40 (mkF m 28 #[.val (.ref a1), .val (.int (own_acc W 40)), .val (.int (40 : Int32))] [])
  refine own_go (fun t k => XS.goto X40.here hx rfl (pc0 := 28) (pc' := 4) rfl (hb hby d5_28) (by decide) (by decide) k) ?_
  show own_G p e below _ T40 (mkF m 4 #[.val (.ref a1), .val (.int (own_acc W 40)), .val (.int (40 : Int32))] [])
  refine own_go (fun t k => XS.iloadN X40.here hx rfl (hb hby d5_4) rfl k) ?_
  show own_G p e below _ T40 (mkF m 5 #[.val (.ref a1), .val (.int (own_acc W 40)), .val (.int (40 : Int32))] [(.int (40 : Int32))])
  refine own_go (fun t k => XS.bipush X40.here hx rfl (hb hby d5_5) k) ?_
  show own_G p e below _ T40 (mkF m 7 #[.val (.ref a1), .val (.int (own_acc W 40)), .val (.int (40 : Int32))] [(.int (44 : Int32)), (.int (40 : Int32))])
  refine own_go (fun t k => XS.icmpNo X40.here hx rfl (hb hby d5_7) rfl (by decide) k) ?_
  show own_G p e below _ T40 (mkF m 10 #[.val (.ref a1), .val (.int (own_acc W 40)), .val (.int (40 : Int32))] [])
  refine own_go (fun t k => XS.iloadN X40.here hx rfl (hb hby d5_10) rfl k) ?_
  show own_G p e below _ T40 (mkF m 11 #[.val (.ref a1), .val (.int (own_acc W 40)), .val (.int (40 : Int32))] [(.int (own_acc W 40))])
  refine own_go (fun t k => XS.aloadN X40.here hx rfl (hb hby d5_11) rfl rfl k) ?_
  show own_G p e below _ T40 (mkF m 12 #[.val (.ref a1), .val (.int (own_acc W 40)), .val (.int (40 : Int32))] [(.ref a1), (.int (own_acc W 40))])
  refine own_go (fun t k => XS.iloadN X40.here hx rfl (hb hby d5_12) rfl k) ?_
  show own_G p e below _ T40 (mkF m 13 #[.val (.ref a1), .val (.int (own_acc W 40)), .val (.int (40 : Int32))] [(.int (40 : Int32)), (.ref a1), (.int (own_acc W 40))])
  refine own_go (X40.caload hx (j := (40 : Int32)) (v := .int (W 40)) (own_cellAt e40 Ar) (State.isArrayOf_alike hZ.alike Ar.2.1) Ar.2.2 (own_in hsz (by decide)) (hat 40 (by decide)) (g := (mkF m 13 #[.val (.ref a1), .val (.int (own_acc W 40)), .val (.int (40 : Int32))] [(.int (40 : Int32)), (.ref a1), (.int (own_acc W 40))])) rfl rfl (hb hby d5_13)) ?_
  show own_G p e below _ T40 (mkF m 14 #[.val (.ref a1), .val (.int (own_acc W 40)), .val (.int (40 : Int32))] [(.int (W 40)), (.int (own_acc W 40))])
  refine own_go (fun t k => XS.bipush X40.here hx rfl (hb hby d5_14) k) ?_
  show own_G p e below _ T40 (mkF m 16 #[.val (.ref a1), .val (.int (own_acc W 40)), .val (.int (40 : Int32))] [(.int (48 : Int32)), (.int (W 40)), (.int (own_acc W 40))])
  refine own_go (fun t k => XS.isub X40.here hx rfl (hb hby d5_16) rfl k) ?_
  show own_G p e below _ T40 (mkF m 17 #[.val (.ref a1), .val (.int (own_acc W 40)), .val (.int (40 : Int32))] [(.int ((W 40) - (48 : Int32))), (.int (own_acc W 40))])
  obtain ⟨T41, X41, e41, st41⟩ := getS X40 hx hZ hown (host := "") (hw _ (List.mem_of_getElem? (i := 20) rfl)) Via.refl e40 S_GENERAL_DIGIT_WEIGHTS (g := (mkF m 17 #[.val (.ref a1), .val (.int (own_acc W 40)), .val (.int (40 : Int32))] [(.int ((W 40) - (48 : Int32))), (.int (own_acc W 40))])) rfl (hb hby d5_17)
  refine own_go st41 ?_
  show own_G p e below _ T41 (mkF m 20 #[.val (.ref a1), .val (.int (own_acc W 40)), .val (.int (40 : Int32))] [(.ref a_GENERAL_DIGIT_WEIGHTS), (.int ((W 40) - (48 : Int32))), (.int (own_acc W 40))])
  refine own_go (fun t k => XS.iloadN X41.here hx rfl (hb hby d5_20) rfl k) ?_
  show own_G p e below _ T41 (mkF m 21 #[.val (.ref a1), .val (.int (own_acc W 40)), .val (.int (40 : Int32))] [(.int (40 : Int32)), (.ref a_GENERAL_DIGIT_WEIGHTS), (.int ((W 40) - (48 : Int32))), (.int (own_acc W 40))])
  refine own_go (X41.iaload hx (j := (40 : Int32)) (v := (.int (5 : Int32))) (own_cellAt e41 A_GENERAL_DIGIT_WEIGHTS) (State.isArrayOf_alike hZ.alike A_GENERAL_DIGIT_WEIGHTS.2.1) A_GENERAL_DIGIT_WEIGHTS.2.2 (own_in Z_GENERAL_DIGIT_WEIGHTS (by decide)) V_GENERAL_DIGIT_WEIGHTS_40 (g := (mkF m 21 #[.val (.ref a1), .val (.int (own_acc W 40)), .val (.int (40 : Int32))] [(.int (40 : Int32)), (.ref a_GENERAL_DIGIT_WEIGHTS), (.int ((W 40) - (48 : Int32))), (.int (own_acc W 40))])) rfl rfl (hb hby d5_21)) ?_
  show own_G p e below _ T41 (mkF m 22 #[.val (.ref a1), .val (.int (own_acc W 40)), .val (.int (40 : Int32))] [(.int (5 : Int32)), (.int ((W 40) - (48 : Int32))), (.int (own_acc W 40))])
  refine own_go (fun t k => XS.imul X41.here hx rfl (hb hby d5_22) rfl k) ?_
  show own_G p e below _ T41 (mkF m 23 #[.val (.ref a1), .val (.int (own_acc W 40)), .val (.int (40 : Int32))] [(.int (((W 40) - (48 : Int32)) * (5 : Int32))), (.int (own_acc W 40))])
  refine own_go (fun t k => XS.iadd X41.here hx rfl (hb hby d5_23) rfl k) ?_
  show own_G p e below _ T41 (mkF m 24 #[.val (.ref a1), .val (.int (own_acc W 40)), .val (.int (40 : Int32))] [(.int (own_acc W 41))])
  refine own_go (fun t k => XS.istoreN X41.here hx rfl (hb hby d5_24) rfl (l' := #[.val (.ref a1), .val (.int (own_acc W 41)), .val (.int (40 : Int32))]) rfl k) ?_
  show own_G p e below _ T41 (mkF m 25 #[.val (.ref a1), .val (.int (own_acc W 41)), .val (.int (40 : Int32))] [])
  refine own_go (fun t k => XS.iinc X41.here hx rfl (hb hby d5_25) rfl (l' := #[.val (.ref a1), .val (.int (own_acc W 41)), .val (.int (41 : Int32))]) rfl k) ?_
  show own_G p e below _ T41 (mkF m 28 #[.val (.ref a1), .val (.int (own_acc W 41)), .val (.int (41 : Int32))] [])
  refine own_go (fun t k => XS.goto X41.here hx rfl (pc0 := 28) (pc' := 4) rfl (hb hby d5_28) (by decide) (by decide) k) ?_
  show own_G p e below _ T41 (mkF m 4 #[.val (.ref a1), .val (.int (own_acc W 41)), .val (.int (41 : Int32))] [])
  refine own_go (fun t k => XS.iloadN X41.here hx rfl (hb hby d5_4) rfl k) ?_
  show own_G p e below _ T41 (mkF m 5 #[.val (.ref a1), .val (.int (own_acc W 41)), .val (.int (41 : Int32))] [(.int (41 : Int32))])
  refine own_go (fun t k => XS.bipush X41.here hx rfl (hb hby d5_5) k) ?_
  show own_G p e below _ T41 (mkF m 7 #[.val (.ref a1), .val (.int (own_acc W 41)), .val (.int (41 : Int32))] [(.int (44 : Int32)), (.int (41 : Int32))])
  refine own_go (fun t k => XS.icmpNo X41.here hx rfl (hb hby d5_7) rfl (by decide) k) ?_
  show own_G p e below _ T41 (mkF m 10 #[.val (.ref a1), .val (.int (own_acc W 41)), .val (.int (41 : Int32))] [])
  refine own_go (fun t k => XS.iloadN X41.here hx rfl (hb hby d5_10) rfl k) ?_
  show own_G p e below _ T41 (mkF m 11 #[.val (.ref a1), .val (.int (own_acc W 41)), .val (.int (41 : Int32))] [(.int (own_acc W 41))])
  refine own_go (fun t k => XS.aloadN X41.here hx rfl (hb hby d5_11) rfl rfl k) ?_
  show own_G p e below _ T41 (mkF m 12 #[.val (.ref a1), .val (.int (own_acc W 41)), .val (.int (41 : Int32))] [(.ref a1), (.int (own_acc W 41))])
  refine own_go (fun t k => XS.iloadN X41.here hx rfl (hb hby d5_12) rfl k) ?_
  show own_G p e below _ T41 (mkF m 13 #[.val (.ref a1), .val (.int (own_acc W 41)), .val (.int (41 : Int32))] [(.int (41 : Int32)), (.ref a1), (.int (own_acc W 41))])
  refine own_go (X41.caload hx (j := (41 : Int32)) (v := .int (W 41)) (own_cellAt e41 Ar) (State.isArrayOf_alike hZ.alike Ar.2.1) Ar.2.2 (own_in hsz (by decide)) (hat 41 (by decide)) (g := (mkF m 13 #[.val (.ref a1), .val (.int (own_acc W 41)), .val (.int (41 : Int32))] [(.int (41 : Int32)), (.ref a1), (.int (own_acc W 41))])) rfl rfl (hb hby d5_13)) ?_
  show own_G p e below _ T41 (mkF m 14 #[.val (.ref a1), .val (.int (own_acc W 41)), .val (.int (41 : Int32))] [(.int (W 41)), (.int (own_acc W 41))])
  refine own_go (fun t k => XS.bipush X41.here hx rfl (hb hby d5_14) k) ?_
  show own_G p e below _ T41 (mkF m 16 #[.val (.ref a1), .val (.int (own_acc W 41)), .val (.int (41 : Int32))] [(.int (48 : Int32)), (.int (W 41)), (.int (own_acc W 41))])
  refine own_go (fun t k => XS.isub X41.here hx rfl (hb hby d5_16) rfl k) ?_
  show own_G p e below _ T41 (mkF m 17 #[.val (.ref a1), .val (.int (own_acc W 41)), .val (.int (41 : Int32))] [(.int ((W 41) - (48 : Int32))), (.int (own_acc W 41))])
  obtain ⟨T42, X42, e42, st42⟩ := getS X41 hx hZ hown (host := "") (hw _ (List.mem_of_getElem? (i := 20) rfl)) Via.refl e41 S_GENERAL_DIGIT_WEIGHTS (g := (mkF m 17 #[.val (.ref a1), .val (.int (own_acc W 41)), .val (.int (41 : Int32))] [(.int ((W 41) - (48 : Int32))), (.int (own_acc W 41))])) rfl (hb hby d5_17)
  refine own_go st42 ?_
  show own_G p e below _ T42 (mkF m 20 #[.val (.ref a1), .val (.int (own_acc W 41)), .val (.int (41 : Int32))] [(.ref a_GENERAL_DIGIT_WEIGHTS), (.int ((W 41) - (48 : Int32))), (.int (own_acc W 41))])
  refine own_go (fun t k => XS.iloadN X42.here hx rfl (hb hby d5_20) rfl k) ?_
  show own_G p e below _ T42 (mkF m 21 #[.val (.ref a1), .val (.int (own_acc W 41)), .val (.int (41 : Int32))] [(.int (41 : Int32)), (.ref a_GENERAL_DIGIT_WEIGHTS), (.int ((W 41) - (48 : Int32))), (.int (own_acc W 41))])
  refine own_go (X42.iaload hx (j := (41 : Int32)) (v := (.int (4 : Int32))) (own_cellAt e42 A_GENERAL_DIGIT_WEIGHTS) (State.isArrayOf_alike hZ.alike A_GENERAL_DIGIT_WEIGHTS.2.1) A_GENERAL_DIGIT_WEIGHTS.2.2 (own_in Z_GENERAL_DIGIT_WEIGHTS (by decide)) V_GENERAL_DIGIT_WEIGHTS_41 (g := (mkF m 21 #[.val (.ref a1), .val (.int (own_acc W 41)), .val (.int (41 : Int32))] [(.int (41 : Int32)), (.ref a_GENERAL_DIGIT_WEIGHTS), (.int ((W 41) - (48 : Int32))), (.int (own_acc W 41))])) rfl rfl (hb hby d5_21)) ?_
  show own_G p e below _ T42 (mkF m 22 #[.val (.ref a1), .val (.int (own_acc W 41)), .val (.int (41 : Int32))] [(.int (4 : Int32)), (.int ((W 41) - (48 : Int32))), (.int (own_acc W 41))])
  refine own_go (fun t k => XS.imul X42.here hx rfl (hb hby d5_22) rfl k) ?_
  show own_G p e below _ T42 (mkF m 23 #[.val (.ref a1), .val (.int (own_acc W 41)), .val (.int (41 : Int32))] [(.int (((W 41) - (48 : Int32)) * (4 : Int32))), (.int (own_acc W 41))])
  refine own_go (fun t k => XS.iadd X42.here hx rfl (hb hby d5_23) rfl k) ?_
  show own_G p e below _ T42 (mkF m 24 #[.val (.ref a1), .val (.int (own_acc W 41)), .val (.int (41 : Int32))] [(.int (own_acc W 42))])
  refine own_go (fun t k => XS.istoreN X42.here hx rfl (hb hby d5_24) rfl (l' := #[.val (.ref a1), .val (.int (own_acc W 42)), .val (.int (41 : Int32))]) rfl k) ?_
  show own_G p e below _ T42 (mkF m 25 #[.val (.ref a1), .val (.int (own_acc W 42)), .val (.int (41 : Int32))] [])
  refine own_go (fun t k => XS.iinc X42.here hx rfl (hb hby d5_25) rfl (l' := #[.val (.ref a1), .val (.int (own_acc W 42)), .val (.int (42 : Int32))]) rfl k) ?_
  show own_G p e below _ T42 (mkF m 28 #[.val (.ref a1), .val (.int (own_acc W 42)), .val (.int (42 : Int32))] [])
  refine own_go (fun t k => XS.goto X42.here hx rfl (pc0 := 28) (pc' := 4) rfl (hb hby d5_28) (by decide) (by decide) k) ?_
  show own_G p e below _ T42 (mkF m 4 #[.val (.ref a1), .val (.int (own_acc W 42)), .val (.int (42 : Int32))] [])
  refine own_go (fun t k => XS.iloadN X42.here hx rfl (hb hby d5_4) rfl k) ?_
  show own_G p e below _ T42 (mkF m 5 #[.val (.ref a1), .val (.int (own_acc W 42)), .val (.int (42 : Int32))] [(.int (42 : Int32))])
  refine own_go (fun t k => XS.bipush X42.here hx rfl (hb hby d5_5) k) ?_
  show own_G p e below _ T42 (mkF m 7 #[.val (.ref a1), .val (.int (own_acc W 42)), .val (.int (42 : Int32))] [(.int (44 : Int32)), (.int (42 : Int32))])
  refine own_go (fun t k => XS.icmpNo X42.here hx rfl (hb hby d5_7) rfl (by decide) k) ?_
  show own_G p e below _ T42 (mkF m 10 #[.val (.ref a1), .val (.int (own_acc W 42)), .val (.int (42 : Int32))] [])
  refine own_go (fun t k => XS.iloadN X42.here hx rfl (hb hby d5_10) rfl k) ?_
  show own_G p e below _ T42 (mkF m 11 #[.val (.ref a1), .val (.int (own_acc W 42)), .val (.int (42 : Int32))] [(.int (own_acc W 42))])
  refine own_go (fun t k => XS.aloadN X42.here hx rfl (hb hby d5_11) rfl rfl k) ?_
  show own_G p e below _ T42 (mkF m 12 #[.val (.ref a1), .val (.int (own_acc W 42)), .val (.int (42 : Int32))] [(.ref a1), (.int (own_acc W 42))])
  refine own_go (fun t k => XS.iloadN X42.here hx rfl (hb hby d5_12) rfl k) ?_
  show own_G p e below _ T42 (mkF m 13 #[.val (.ref a1), .val (.int (own_acc W 42)), .val (.int (42 : Int32))] [(.int (42 : Int32)), (.ref a1), (.int (own_acc W 42))])
  refine own_go (X42.caload hx (j := (42 : Int32)) (v := .int (W 42)) (own_cellAt e42 Ar) (State.isArrayOf_alike hZ.alike Ar.2.1) Ar.2.2 (own_in hsz (by decide)) (hat 42 (by decide)) (g := (mkF m 13 #[.val (.ref a1), .val (.int (own_acc W 42)), .val (.int (42 : Int32))] [(.int (42 : Int32)), (.ref a1), (.int (own_acc W 42))])) rfl rfl (hb hby d5_13)) ?_
  show own_G p e below _ T42 (mkF m 14 #[.val (.ref a1), .val (.int (own_acc W 42)), .val (.int (42 : Int32))] [(.int (W 42)), (.int (own_acc W 42))])
  refine own_go (fun t k => XS.bipush X42.here hx rfl (hb hby d5_14) k) ?_
  show own_G p e below _ T42 (mkF m 16 #[.val (.ref a1), .val (.int (own_acc W 42)), .val (.int (42 : Int32))] [(.int (48 : Int32)), (.int (W 42)), (.int (own_acc W 42))])
  refine own_go (fun t k => XS.isub X42.here hx rfl (hb hby d5_16) rfl k) ?_
  show own_G p e below _ T42 (mkF m 17 #[.val (.ref a1), .val (.int (own_acc W 42)), .val (.int (42 : Int32))] [(.int ((W 42) - (48 : Int32))), (.int (own_acc W 42))])
  obtain ⟨T43, X43, e43, st43⟩ := getS X42 hx hZ hown (host := "") (hw _ (List.mem_of_getElem? (i := 20) rfl)) Via.refl e42 S_GENERAL_DIGIT_WEIGHTS (g := (mkF m 17 #[.val (.ref a1), .val (.int (own_acc W 42)), .val (.int (42 : Int32))] [(.int ((W 42) - (48 : Int32))), (.int (own_acc W 42))])) rfl (hb hby d5_17)
  refine own_go st43 ?_
  show own_G p e below _ T43 (mkF m 20 #[.val (.ref a1), .val (.int (own_acc W 42)), .val (.int (42 : Int32))] [(.ref a_GENERAL_DIGIT_WEIGHTS), (.int ((W 42) - (48 : Int32))), (.int (own_acc W 42))])
  refine own_go (fun t k => XS.iloadN X43.here hx rfl (hb hby d5_20) rfl k) ?_
  show own_G p e below _ T43 (mkF m 21 #[.val (.ref a1), .val (.int (own_acc W 42)), .val (.int (42 : Int32))] [(.int (42 : Int32)), (.ref a_GENERAL_DIGIT_WEIGHTS), (.int ((W 42) - (48 : Int32))), (.int (own_acc W 42))])
  refine own_go (X43.iaload hx (j := (42 : Int32)) (v := (.int (3 : Int32))) (own_cellAt e43 A_GENERAL_DIGIT_WEIGHTS) (State.isArrayOf_alike hZ.alike A_GENERAL_DIGIT_WEIGHTS.2.1) A_GENERAL_DIGIT_WEIGHTS.2.2 (own_in Z_GENERAL_DIGIT_WEIGHTS (by decide)) V_GENERAL_DIGIT_WEIGHTS_42 (g := (mkF m 21 #[.val (.ref a1), .val (.int (own_acc W 42)), .val (.int (42 : Int32))] [(.int (42 : Int32)), (.ref a_GENERAL_DIGIT_WEIGHTS), (.int ((W 42) - (48 : Int32))), (.int (own_acc W 42))])) rfl rfl (hb hby d5_21)) ?_
  show own_G p e below _ T43 (mkF m 22 #[.val (.ref a1), .val (.int (own_acc W 42)), .val (.int (42 : Int32))] [(.int (3 : Int32)), (.int ((W 42) - (48 : Int32))), (.int (own_acc W 42))])
  refine own_go (fun t k => XS.imul X43.here hx rfl (hb hby d5_22) rfl k) ?_
  show own_G p e below _ T43 (mkF m 23 #[.val (.ref a1), .val (.int (own_acc W 42)), .val (.int (42 : Int32))] [(.int (((W 42) - (48 : Int32)) * (3 : Int32))), (.int (own_acc W 42))])
  refine own_go (fun t k => XS.iadd X43.here hx rfl (hb hby d5_23) rfl k) ?_
  show own_G p e below _ T43 (mkF m 24 #[.val (.ref a1), .val (.int (own_acc W 42)), .val (.int (42 : Int32))] [(.int (own_acc W 43))])
  refine own_go (fun t k => XS.istoreN X43.here hx rfl (hb hby d5_24) rfl (l' := #[.val (.ref a1), .val (.int (own_acc W 43)), .val (.int (42 : Int32))]) rfl k) ?_
  show own_G p e below _ T43 (mkF m 25 #[.val (.ref a1), .val (.int (own_acc W 43)), .val (.int (42 : Int32))] [])
  refine own_go (fun t k => XS.iinc X43.here hx rfl (hb hby d5_25) rfl (l' := #[.val (.ref a1), .val (.int (own_acc W 43)), .val (.int (43 : Int32))]) rfl k) ?_
  show own_G p e below _ T43 (mkF m 28 #[.val (.ref a1), .val (.int (own_acc W 43)), .val (.int (43 : Int32))] [])
  refine own_go (fun t k => XS.goto X43.here hx rfl (pc0 := 28) (pc' := 4) rfl (hb hby d5_28) (by decide) (by decide) k) ?_
  show own_G p e below _ T43 (mkF m 4 #[.val (.ref a1), .val (.int (own_acc W 43)), .val (.int (43 : Int32))] [])
  refine own_go (fun t k => XS.iloadN X43.here hx rfl (hb hby d5_4) rfl k) ?_
  show own_G p e below _ T43 (mkF m 5 #[.val (.ref a1), .val (.int (own_acc W 43)), .val (.int (43 : Int32))] [(.int (43 : Int32))])
  refine own_go (fun t k => XS.bipush X43.here hx rfl (hb hby d5_5) k) ?_
  show own_G p e below _ T43 (mkF m 7 #[.val (.ref a1), .val (.int (own_acc W 43)), .val (.int (43 : Int32))] [(.int (44 : Int32)), (.int (43 : Int32))])
  refine own_go (fun t k => XS.icmpNo X43.here hx rfl (hb hby d5_7) rfl (by decide) k) ?_
  show own_G p e below _ T43 (mkF m 10 #[.val (.ref a1), .val (.int (own_acc W 43)), .val (.int (43 : Int32))] [])
  refine own_go (fun t k => XS.iloadN X43.here hx rfl (hb hby d5_10) rfl k) ?_
  show own_G p e below _ T43 (mkF m 11 #[.val (.ref a1), .val (.int (own_acc W 43)), .val (.int (43 : Int32))] [(.int (own_acc W 43))])
  refine own_go (fun t k => XS.aloadN X43.here hx rfl (hb hby d5_11) rfl rfl k) ?_
  show own_G p e below _ T43 (mkF m 12 #[.val (.ref a1), .val (.int (own_acc W 43)), .val (.int (43 : Int32))] [(.ref a1), (.int (own_acc W 43))])
  refine own_go (fun t k => XS.iloadN X43.here hx rfl (hb hby d5_12) rfl k) ?_
  show own_G p e below _ T43 (mkF m 13 #[.val (.ref a1), .val (.int (own_acc W 43)), .val (.int (43 : Int32))] [(.int (43 : Int32)), (.ref a1), (.int (own_acc W 43))])
  refine own_go (X43.caload hx (j := (43 : Int32)) (v := .int (W 43)) (own_cellAt e43 Ar) (State.isArrayOf_alike hZ.alike Ar.2.1) Ar.2.2 (own_in hsz (by decide)) (hat 43 (by decide)) (g := (mkF m 13 #[.val (.ref a1), .val (.int (own_acc W 43)), .val (.int (43 : Int32))] [(.int (43 : Int32)), (.ref a1), (.int (own_acc W 43))])) rfl rfl (hb hby d5_13)) ?_
  show own_G p e below _ T43 (mkF m 14 #[.val (.ref a1), .val (.int (own_acc W 43)), .val (.int (43 : Int32))] [(.int (W 43)), (.int (own_acc W 43))])
  refine own_go (fun t k => XS.bipush X43.here hx rfl (hb hby d5_14) k) ?_
  show own_G p e below _ T43 (mkF m 16 #[.val (.ref a1), .val (.int (own_acc W 43)), .val (.int (43 : Int32))] [(.int (48 : Int32)), (.int (W 43)), (.int (own_acc W 43))])
  refine own_go (fun t k => XS.isub X43.here hx rfl (hb hby d5_16) rfl k) ?_
  show own_G p e below _ T43 (mkF m 17 #[.val (.ref a1), .val (.int (own_acc W 43)), .val (.int (43 : Int32))] [(.int ((W 43) - (48 : Int32))), (.int (own_acc W 43))])
  obtain ⟨T44, X44, e44, st44⟩ := getS X43 hx hZ hown (host := "") (hw _ (List.mem_of_getElem? (i := 20) rfl)) Via.refl e43 S_GENERAL_DIGIT_WEIGHTS (g := (mkF m 17 #[.val (.ref a1), .val (.int (own_acc W 43)), .val (.int (43 : Int32))] [(.int ((W 43) - (48 : Int32))), (.int (own_acc W 43))])) rfl (hb hby d5_17)
  refine own_go st44 ?_
  show own_G p e below _ T44 (mkF m 20 #[.val (.ref a1), .val (.int (own_acc W 43)), .val (.int (43 : Int32))] [(.ref a_GENERAL_DIGIT_WEIGHTS), (.int ((W 43) - (48 : Int32))), (.int (own_acc W 43))])
  refine own_go (fun t k => XS.iloadN X44.here hx rfl (hb hby d5_20) rfl k) ?_
  show own_G p e below _ T44 (mkF m 21 #[.val (.ref a1), .val (.int (own_acc W 43)), .val (.int (43 : Int32))] [(.int (43 : Int32)), (.ref a_GENERAL_DIGIT_WEIGHTS), (.int ((W 43) - (48 : Int32))), (.int (own_acc W 43))])
  refine own_go (X44.iaload hx (j := (43 : Int32)) (v := (.int (2 : Int32))) (own_cellAt e44 A_GENERAL_DIGIT_WEIGHTS) (State.isArrayOf_alike hZ.alike A_GENERAL_DIGIT_WEIGHTS.2.1) A_GENERAL_DIGIT_WEIGHTS.2.2 (own_in Z_GENERAL_DIGIT_WEIGHTS (by decide)) V_GENERAL_DIGIT_WEIGHTS_43 (g := (mkF m 21 #[.val (.ref a1), .val (.int (own_acc W 43)), .val (.int (43 : Int32))] [(.int (43 : Int32)), (.ref a_GENERAL_DIGIT_WEIGHTS), (.int ((W 43) - (48 : Int32))), (.int (own_acc W 43))])) rfl rfl (hb hby d5_21)) ?_
  show own_G p e below _ T44 (mkF m 22 #[.val (.ref a1), .val (.int (own_acc W 43)), .val (.int (43 : Int32))] [(.int (2 : Int32)), (.int ((W 43) - (48 : Int32))), (.int (own_acc W 43))])
  refine own_go (fun t k => XS.imul X44.here hx rfl (hb hby d5_22) rfl k) ?_
  show own_G p e below _ T44 (mkF m 23 #[.val (.ref a1), .val (.int (own_acc W 43)), .val (.int (43 : Int32))] [(.int (((W 43) - (48 : Int32)) * (2 : Int32))), (.int (own_acc W 43))])
  refine own_go (fun t k => XS.iadd X44.here hx rfl (hb hby d5_23) rfl k) ?_
  show own_G p e below _ T44 (mkF m 24 #[.val (.ref a1), .val (.int (own_acc W 43)), .val (.int (43 : Int32))] [(.int (own_acc W 44))])
  refine own_go (fun t k => XS.istoreN X44.here hx rfl (hb hby d5_24) rfl (l' := #[.val (.ref a1), .val (.int (own_acc W 44)), .val (.int (43 : Int32))]) rfl k) ?_
  show own_G p e below _ T44 (mkF m 25 #[.val (.ref a1), .val (.int (own_acc W 44)), .val (.int (43 : Int32))] [])
  refine own_go (fun t k => XS.iinc X44.here hx rfl (hb hby d5_25) rfl (l' := #[.val (.ref a1), .val (.int (own_acc W 44)), .val (.int (44 : Int32))]) rfl k) ?_
  show own_G p e below _ T44 (mkF m 28 #[.val (.ref a1), .val (.int (own_acc W 44)), .val (.int (44 : Int32))] [])
  refine own_go (fun t k => XS.goto X44.here hx rfl (pc0 := 28) (pc' := 4) rfl (hb hby d5_28) (by decide) (by decide) k) ?_
  show own_G p e below _ T44 (mkF m 4 #[.val (.ref a1), .val (.int (own_acc W 44)), .val (.int (44 : Int32))] [])
  refine own_go (fun t k => XS.iloadN X44.here hx rfl (hb hby d5_4) rfl k) ?_
  show own_G p e below _ T44 (mkF m 5 #[.val (.ref a1), .val (.int (own_acc W 44)), .val (.int (44 : Int32))] [(.int (44 : Int32))])
  refine own_go (fun t k => XS.bipush X44.here hx rfl (hb hby d5_5) k) ?_
  show own_G p e below _ T44 (mkF m 7 #[.val (.ref a1), .val (.int (own_acc W 44)), .val (.int (44 : Int32))] [(.int (44 : Int32)), (.int (44 : Int32))])
  refine own_go (fun t k => XS.icmpYes X44.here hx rfl (pc0 := 7) (pc' := 31) rfl (hb hby d5_7) rfl (by decide) (by decide) (by decide) k) ?_
  show own_G p e below _ T44 (mkF m 31 #[.val (.ref a1), .val (.int (own_acc W 44)), .val (.int (44 : Int32))] [])
  refine own_go (fun t k => XS.bipush X44.here hx rfl (hb hby d5_31) k) ?_
  show own_G p e below _ T44 (mkF m 33 #[.val (.ref a1), .val (.int (own_acc W 44)), .val (.int (44 : Int32))] [(.int (11 : Int32))])
  refine own_go (fun t k => XS.iloadN X44.here hx rfl (hb hby d5_33) rfl k) ?_
  show own_G p e below _ T44 (mkF m 34 #[.val (.ref a1), .val (.int (own_acc W 44)), .val (.int (44 : Int32))] [(.int (own_acc W 44)), (.int (11 : Int32))])
  refine own_go (fun t k => XS.bipush X44.here hx rfl (hb hby d5_34) k) ?_
  show own_G p e below _ T44 (mkF m 36 #[.val (.ref a1), .val (.int (own_acc W 44)), .val (.int (44 : Int32))] [(.int (11 : Int32)), (.int (own_acc W 44)), (.int (11 : Int32))])
  refine own_go (fun t k => iremM X44 hx rfl (hb hby d5_36) rfl (by decide) k) ?_
  show own_G p e below _ T44 (mkF m 37 #[.val (.ref a1), .val (.int (own_acc W 44)), .val (.int (44 : Int32))] [(.int ((own_acc W 44) % (11 : Int32))), (.int (11 : Int32))])
  refine own_go (fun t k => XS.isub X44.here hx rfl (hb hby d5_37) rfl k) ?_
  show own_G p e below _ T44 (mkF m 38 #[.val (.ref a1), .val (.int (own_acc W 44)), .val (.int (44 : Int32))] [(.int ((11 : Int32) - ((own_acc W 44) % (11 : Int32))))])
  refine own_go (fun t k => XS.istoreN X44.here hx rfl (hb hby d5_38) rfl (l' := #[.val (.ref a1), .val (.int (own_acc W 44)), .val (.int ((11 : Int32) - ((own_acc W 44) % (11 : Int32))))]) rfl k) ?_
  show own_G p e below _ T44 (mkF m 39 #[.val (.ref a1), .val (.int (own_acc W 44)), .val (.int ((11 : Int32) - ((own_acc W 44) % (11 : Int32))))] [])
  refine own_go (fun t k => XS.iloadN X44.here hx rfl (hb hby d5_39) rfl k) ?_
  show own_G p e below _ T44 (mkF m 40 #[.val (.ref a1), .val (.int (own_acc W 44)), .val (.int ((11 : Int32) - ((own_acc W 44) % (11 : Int32))))] [(.int ((11 : Int32) - ((own_acc W 44) % (11 : Int32))))])
  refine own_go (fun t k => XS.bipush X44.here hx rfl (hb hby d5_40) k) ?_
  show own_G p e below _ T44 (mkF m 42 #[.val (.ref a1), .val (.int (own_acc W 44)), .val (.int ((11 : Int32) - ((own_acc W 44) % (11 : Int32))))] [(.int (10 : Int32)), (.int ((11 : Int32) - ((own_acc W 44) % (11 : Int32))))])
  by_cases hc45 : ((11 : Int32) - ((own_acc W 44) % (11 : Int32))) < (10 : Int32)
  ·
    refine own_go (fun t k => XS.icmpYes X44.here hx rfl (pc0 := 42) (pc' := 49) rfl (hb hby d5_42) rfl (Jvm.Free.XT.ii_lt_t hc45) (by decide) (by decide) k) ?_
    show own_G p e below _ T44 (mkF m 49 #[.val (.ref a1), .val (.int (own_acc W 44)), .val (.int ((11 : Int32) - ((own_acc W 44) % (11 : Int32))))] [])
    refine own_go (fun t k => XS.iloadN X44.here hx rfl (hb hby d5_49) rfl k) ?_
    show own_G p e below _ T44 (mkF m 50 #[.val (.ref a1), .val (.int (own_acc W 44)), .val (.int ((11 : Int32) - ((own_acc W 44) % (11 : Int32))))] [(.int ((11 : Int32) - ((own_acc W 44) % (11 : Int32))))])
    exact own_retI X44 hx hlk hret (hb hby d5_50) (by decide) (by decide) ⟨congrArg some (congrArg Value.int (Eq.symm (show own_g (own_acc W 44) = ((11 : Int32) - ((own_acc W 44) % (11 : Int32))) from (by unfold own_g; rw [if_pos hc45])))), rfl, e44⟩
  ·
    refine own_go (fun t k => XS.icmpNo X44.here hx rfl (hb hby d5_42) rfl (Jvm.Free.XT.ii_lt_f hc45) k) ?_
    show own_G p e below _ T44 (mkF m 45 #[.val (.ref a1), .val (.int (own_acc W 44)), .val (.int ((11 : Int32) - ((own_acc W 44) % (11 : Int32))))] [])
    refine own_go (fun t k => XS.iconst X44.here hx rfl (hb hby d5_45) k) ?_
    show own_G p e below _ T44 (mkF m 46 #[.val (.ref a1), .val (.int (own_acc W 44)), .val (.int ((11 : Int32) - ((own_acc W 44) % (11 : Int32))))] [(.int (1 : Int32))])
    refine own_go (fun t k => XS.goto X44.here hx rfl (pc0 := 46) (pc' := 50) rfl (hb hby d5_46) (by decide) (by decide) k) ?_
    show own_G p e below _ T44 (mkF m 50 #[.val (.ref a1), .val (.int (own_acc W 44)), .val (.int ((11 : Int32) - ((own_acc W 44) % (11 : Int32))))] [(.int (1 : Int32))])
    exact own_retI X44 hx hlk hret (hb hby d5_50) (by decide) (by decide) ⟨congrArg some (congrArg Value.int (Eq.symm (show own_g (own_acc W 44) = (1 : Int32) from (by unfold own_g; rw [if_neg hc45])))), rfl, e44⟩
def own_W (i0 i1 i2 : Int64) (i3 : Int32) (k : Nat) : Int32 := ([(nar .char (own_dg i0 (0 : Int32))), (nar .char (own_dg i0 (1 : Int32))), (nar .char (own_dg i0 (2 : Int32))), (nar .char (own_dg i0 (3 : Int32))), (nar .char (i3 &&& (255 : Int32)).toUInt32.toUInt16.toUInt32.toInt32), (nar .char (own_dg i0 (5 : Int32))), (nar .char (own_dg i0 (6 : Int32))), (nar .char (own_dg i0 (7 : Int32))), (nar .char (own_dg i0 (8 : Int32))), (nar .char (own_dg i0 (9 : Int32))), (nar .char (own_dg i0 (10 : Int32))), (nar .char (own_dg i0 (11 : Int32))), (nar .char (own_dg i0 (12 : Int32))), (nar .char (own_dg i0 (13 : Int32))), (nar .char (own_dg i0 (14 : Int32))), (nar .char (own_dg i0 (15 : Int32))), (nar .char (own_dg i1 (0 : Int32))), (nar .char (own_dg i1 (1 : Int32))), (nar .char (own_dg i1 (2 : Int32))), (nar .char (own_dg i1 (3 : Int32))), (nar .char (own_dg i1 (4 : Int32))), (nar .char (own_dg i1 (5 : Int32))), (nar .char (own_dg i1 (6 : Int32))), (nar .char (own_dg i1 (7 : Int32))), (nar .char (own_dg i1 (8 : Int32))), (nar .char (own_dg i1 (9 : Int32))), (nar .char (own_dg i1 (10 : Int32))), (nar .char (own_dg i1 (11 : Int32))), (nar .char (own_dg i1 (12 : Int32))), (nar .char (own_dg i1 (13 : Int32))), (nar .char (own_dg i1 (14 : Int32))), (nar .char (own_dg i1 (15 : Int32))), (nar .char (own_dg i2 (0 : Int32))), (nar .char (own_dg i2 (1 : Int32))), (nar .char (own_dg i2 (2 : Int32))), (nar .char (own_dg i2 (3 : Int32))), (nar .char (own_dg i2 (4 : Int32))), (nar .char (own_dg i2 (5 : Int32))), (nar .char (own_dg i2 (6 : Int32))), (nar .char (own_dg i2 (7 : Int32))), (nar .char (own_dg i2 (8 : Int32))), (nar .char (own_dg i2 (9 : Int32))), (nar .char (own_dg i2 (10 : Int32))), (nar .char (own_dg i2 (11 : Int32)))] : List Int32).getD k 0
set_option maxRecDepth 65536 in
theorem own_hat (c : ClassId) (i0 i1 i2 : Int64) (i3 : Int32) : ∀ i, i < 44 → (own_cell c #[(.int (nar .char (own_dg i0 (0 : Int32)))), (.int (nar .char (own_dg i0 (1 : Int32)))), (.int (nar .char (own_dg i0 (2 : Int32)))), (.int (nar .char (own_dg i0 (3 : Int32)))), (.int (nar .char (i3 &&& (255 : Int32)).toUInt32.toUInt16.toUInt32.toInt32)), (.int (nar .char (own_dg i0 (5 : Int32)))), (.int (nar .char (own_dg i0 (6 : Int32)))), (.int (nar .char (own_dg i0 (7 : Int32)))), (.int (nar .char (own_dg i0 (8 : Int32)))), (.int (nar .char (own_dg i0 (9 : Int32)))), (.int (nar .char (own_dg i0 (10 : Int32)))), (.int (nar .char (own_dg i0 (11 : Int32)))), (.int (nar .char (own_dg i0 (12 : Int32)))), (.int (nar .char (own_dg i0 (13 : Int32)))), (.int (nar .char (own_dg i0 (14 : Int32)))), (.int (nar .char (own_dg i0 (15 : Int32)))), (.int (nar .char (own_dg i1 (0 : Int32)))), (.int (nar .char (own_dg i1 (1 : Int32)))), (.int (nar .char (own_dg i1 (2 : Int32)))), (.int (nar .char (own_dg i1 (3 : Int32)))), (.int (nar .char (own_dg i1 (4 : Int32)))), (.int (nar .char (own_dg i1 (5 : Int32)))), (.int (nar .char (own_dg i1 (6 : Int32)))), (.int (nar .char (own_dg i1 (7 : Int32)))), (.int (nar .char (own_dg i1 (8 : Int32)))), (.int (nar .char (own_dg i1 (9 : Int32)))), (.int (nar .char (own_dg i1 (10 : Int32)))), (.int (nar .char (own_dg i1 (11 : Int32)))), (.int (nar .char (own_dg i1 (12 : Int32)))), (.int (nar .char (own_dg i1 (13 : Int32)))), (.int (nar .char (own_dg i1 (14 : Int32)))), (.int (nar .char (own_dg i1 (15 : Int32)))), (.int (nar .char (own_dg i2 (0 : Int32)))), (.int (nar .char (own_dg i2 (1 : Int32)))), (.int (nar .char (own_dg i2 (2 : Int32)))), (.int (nar .char (own_dg i2 (3 : Int32)))), (.int (nar .char (own_dg i2 (4 : Int32)))), (.int (nar .char (own_dg i2 (5 : Int32)))), (.int (nar .char (own_dg i2 (6 : Int32)))), (.int (nar .char (own_dg i2 (7 : Int32)))), (.int (nar .char (own_dg i2 (8 : Int32)))), (.int (nar .char (own_dg i2 (9 : Int32)))), (.int (nar .char (own_dg i2 (10 : Int32)))), (.int (nar .char (own_dg i2 (11 : Int32))))]).slots[i]? = some (.int (own_W i0 i1 i2 i3 i)) := by
  intro i hi
  have : i = 0 ∨ i = 1 ∨ i = 2 ∨ i = 3 ∨ i = 4 ∨ i = 5 ∨ i = 6 ∨ i = 7 ∨ i = 8 ∨ i = 9 ∨ i = 10 ∨ i = 11 ∨ i = 12 ∨ i = 13 ∨ i = 14 ∨ i = 15 ∨ i = 16 ∨ i = 17 ∨ i = 18 ∨ i = 19 ∨ i = 20 ∨ i = 21 ∨ i = 22 ∨ i = 23 ∨ i = 24 ∨ i = 25 ∨ i = 26 ∨ i = 27 ∨ i = 28 ∨ i = 29 ∨ i = 30 ∨ i = 31 ∨ i = 32 ∨ i = 33 ∨ i = 34 ∨ i = 35 ∨ i = 36 ∨ i = 37 ∨ i = 38 ∨ i = 39 ∨ i = 40 ∨ i = 41 ∨ i = 42 ∨ i = 43 := by omega
  rcases this with rfl | rfl | rfl | rfl | rfl | rfl | rfl | rfl | rfl | rfl | rfl | rfl | rfl | rfl | rfl | rfl | rfl | rfl | rfl | rfl | rfl | rfl | rfl | rfl | rfl | rfl | rfl | rfl | rfl | rfl | rfl | rfl | rfl | rfl | rfl | rfl | rfl | rfl | rfl | rfl | rfl | rfl | rfl | rfl
  all_goals rfl
theorem own_l16 (z : Int64) (h0 : 0 ≤ z.toInt) (h1 : z.toInt ≤ 15) : z = (0 : Int64) ∨ z = (1 : Int64) ∨ z = (2 : Int64) ∨ z = (3 : Int64) ∨ z = (4 : Int64) ∨ z = (5 : Int64) ∨ z = (6 : Int64) ∨ z = (7 : Int64) ∨ z = (8 : Int64) ∨ z = (9 : Int64) ∨ z = (10 : Int64) ∨ z = (11 : Int64) ∨ z = (12 : Int64) ∨ z = (13 : Int64) ∨ z = (14 : Int64) ∨ z = (15 : Int64) := by
  simp only [← Int64.toInt_inj]
  change z.toInt = 0 ∨ z.toInt = 1 ∨ z.toInt = 2 ∨ z.toInt = 3 ∨ z.toInt = 4 ∨ z.toInt = 5 ∨ z.toInt = 6 ∨ z.toInt = 7 ∨ z.toInt = 8 ∨ z.toInt = 9 ∨ z.toInt = 10 ∨ z.toInt = 11 ∨ z.toInt = 12 ∨ z.toInt = 13 ∨ z.toInt = 14 ∨ z.toInt = 15
  omega
theorem own_dgb (v : Int64) (n : Int32) : 48 ≤ (nar .char (own_dg v n)).toInt ∧ (nar .char (own_dg v n)).toInt ≤ 57 := by
  unfold own_dg
  generalize Jvm.Free.XT.ushrL v ((4 : Int32) * n) = y
  have h := Jvm.Kit.i64_mask y 15 (k := 4) (by decide) (by decide)
  rcases own_l16 (y &&& 15) (by omega) (by omega) with g | g | g | g | g | g | g | g | g | g | g | g | g | g | g | g
  all_goals (rw [g]; decide)
set_option maxRecDepth 65536 in
theorem own_Wb (i0 i1 i2 : Int64) (i3 : Int32) : ∀ i, i < 44 → i ≠ 4 → 48 ≤ (own_W i0 i1 i2 i3 i).toInt ∧ (own_W i0 i1 i2 i3 i).toInt ≤ 57 := by
  intro i hi hn
  have : i = 0 ∨ i = 1 ∨ i = 2 ∨ i = 3 ∨ i = 5 ∨ i = 6 ∨ i = 7 ∨ i = 8 ∨ i = 9 ∨ i = 10 ∨ i = 11 ∨ i = 12 ∨ i = 13 ∨ i = 14 ∨ i = 15 ∨ i = 16 ∨ i = 17 ∨ i = 18 ∨ i = 19 ∨ i = 20 ∨ i = 21 ∨ i = 22 ∨ i = 23 ∨ i = 24 ∨ i = 25 ∨ i = 26 ∨ i = 27 ∨ i = 28 ∨ i = 29 ∨ i = 30 ∨ i = 31 ∨ i = 32 ∨ i = 33 ∨ i = 34 ∨ i = 35 ∨ i = 36 ∨ i = 37 ∨ i = 38 ∨ i = 39 ∨ i = 40 ∨ i = 41 ∨ i = 42 ∨ i = 43 := by omega
  rcases this with rfl | rfl | rfl | rfl | rfl | rfl | rfl | rfl | rfl | rfl | rfl | rfl | rfl | rfl | rfl | rfl | rfl | rfl | rfl | rfl | rfl | rfl | rfl | rfl | rfl | rfl | rfl | rfl | rfl | rfl | rfl | rfl | rfl | rfl | rfl | rfl | rfl | rfl | rfl | rfl | rfl | rfl | rfl
  all_goals exact own_dgb _ _
theorem own_wtb : ∀ k, k < 44 → 0 ≤ (own_wt k).toInt ∧ (own_wt k).toInt ≤ 9 := by decide
theorem own_accb (W : Nat → Int32) (hW : ∀ i, i < 44 → i ≠ 4 → 48 ≤ (W i).toInt ∧ (W i).toInt ≤ 57) : ∀ k, k ≤ 44 → 0 ≤ (own_acc W k).toInt ∧ (own_acc W k).toInt ≤ 81 * (k : Int)
  | 0, _ => by
    show 0 ≤ (0 : Int32).toInt ∧ (0 : Int32).toInt ≤ 81 * ((0 : Nat) : Int)
    decide
  | k + 1, hk => by
    obtain ⟨h1, h2⟩ := own_accb W hW k (by omega)
    show 0 ≤ (own_acc W k + (W k - 48) * own_wt k).toInt ∧ (own_acc W k + (W k - 48) * own_wt k).toInt ≤ 81 * ((k + 1 : Nat) : Int)
    by_cases h4 : k = 4
    · subst h4
      have e : (W 4 - 48) * own_wt 4 = 0 := by
        show (W 4 - 48) * 0 = 0
        simp
      rw [e, Int32.add_zero]
      omega
    · obtain ⟨w1, w2⟩ := own_wtb k (by omega)
      obtain ⟨d1, d2⟩ := hW k (by omega) h4
      have c48 : (48 : Int32).toInt = 48 := by decide
      have e1 : (W k - 48).toInt = (W k).toInt - 48 := by
        rw [Int32.toInt_sub, c48]
        exact Int.bmod_eq_of_le (by omega) (by omega)
      have m1 : 0 ≤ (W k - 48).toInt * (own_wt k).toInt := Int.mul_nonneg (by omega) w1
      have m2 : (W k - 48).toInt * (own_wt k).toInt ≤ 9 * 9 := Int.mul_le_mul (by omega) w2 w1 (by omega)
      have e2 : ((W k - 48) * own_wt k).toInt = (W k - 48).toInt * (own_wt k).toInt := by
        rw [Int32.toInt_mul]
        exact Int.bmod_eq_of_le (by omega) (by omega)
      have e3 : (own_acc W k + (W k - 48) * own_wt k).toInt = (own_acc W k).toInt + ((W k - 48) * own_wt k).toInt := by
        rw [Int32.toInt_add]
        exact Int.bmod_eq_of_le (by omega) (by omega)
      omega
set_option maxRecDepth 65536 in
set_option maxHeartbeats 40000000 in
theorem own_sum (W : Nat → Int32) : ((((((((own_r8 W 43 + own_r8 W 35) + own_r8 W 27) + own_r8 W 19) + own_r7 W 11) + (9 : Int32) * (W 3 - (48 : Int32))) + (2 : Int32) * (W 2 - (48 : Int32))) + (3 : Int32) * (W 1 - (48 : Int32))) + (4 : Int32) * (W 0 - (48 : Int32))) = own_acc W 44 := by
  have e : own_acc W 44 = ((((((((((((((((((((((((((((((((((((((((((((0 + (W 0 - 48) * (4 : Int32)) + (W 1 - 48) * (3 : Int32)) + (W 2 - 48) * (2 : Int32)) + (W 3 - 48) * (9 : Int32)) + (W 4 - 48) * (0 : Int32)) + (W 5 - 48) * (8 : Int32)) + (W 6 - 48) * (7 : Int32)) + (W 7 - 48) * (6 : Int32)) + (W 8 - 48) * (5 : Int32)) + (W 9 - 48) * (4 : Int32)) + (W 10 - 48) * (3 : Int32)) + (W 11 - 48) * (2 : Int32)) + (W 12 - 48) * (9 : Int32)) + (W 13 - 48) * (8 : Int32)) + (W 14 - 48) * (7 : Int32)) + (W 15 - 48) * (6 : Int32)) + (W 16 - 48) * (5 : Int32)) + (W 17 - 48) * (4 : Int32)) + (W 18 - 48) * (3 : Int32)) + (W 19 - 48) * (2 : Int32)) + (W 20 - 48) * (9 : Int32)) + (W 21 - 48) * (8 : Int32)) + (W 22 - 48) * (7 : Int32)) + (W 23 - 48) * (6 : Int32)) + (W 24 - 48) * (5 : Int32)) + (W 25 - 48) * (4 : Int32)) + (W 26 - 48) * (3 : Int32)) + (W 27 - 48) * (2 : Int32)) + (W 28 - 48) * (9 : Int32)) + (W 29 - 48) * (8 : Int32)) + (W 30 - 48) * (7 : Int32)) + (W 31 - 48) * (6 : Int32)) + (W 32 - 48) * (5 : Int32)) + (W 33 - 48) * (4 : Int32)) + (W 34 - 48) * (3 : Int32)) + (W 35 - 48) * (2 : Int32)) + (W 36 - 48) * (9 : Int32)) + (W 37 - 48) * (8 : Int32)) + (W 38 - 48) * (7 : Int32)) + (W 39 - 48) * (6 : Int32)) + (W 40 - 48) * (5 : Int32)) + (W 41 - 48) * (4 : Int32)) + (W 42 - 48) * (3 : Int32)) + (W 43 - 48) * (2 : Int32)) := rfl
  rw [e]
  unfold own_r8 own_r7
  generalize W 4 - 48 = z4
  rw [show z4 * (0 : Int32) = 0 by simp, Int32.add_zero, Int32.zero_add]
  simp only [Nat.reduceSub]
  ac_rfl
theorem pn_0 : plainFor x = true := by first | exact plainFor_of_name (by first | (simp [plainName, overriddenIn]; done) | decide +kernel) | decide +kernel
set_option maxRecDepth 65536 in
set_option maxHeartbeats 40000000 in
theorem rm0 (l : Launch) (Z : State) (a0 : Array Value) (hw : ∀ d ∈ tables_1, d.before a0 Z = true) (i0 i1 i2 : Int64) (i3 : Int32) (a_GENERAL_DIGIT_WEIGHTS : Addr) (cl_GENERAL_DIGIT_WEIGHTS : Cell) (h0 : Heap) (n0 : Nat) (Z0 : n0 ≤ h0.size) (B : own_B Z h0 a_GENERAL_DIGIT_WEIGHTS cl_GENERAL_DIGIT_WEIGHTS) :
    own_M l Z x code maxLocals ret room_1 #[.long i0, .long i1, .long i2, .int i3] h0 (fun v h L => v = some (.int 1) ∧ Fr n0 L) := by
  refine own_body pn_0 ?_
  intro p e s m below meth c T0 hx hby hml hlk hown hret hnm hZ X0 e0
  replace hown : s.vm.findClass "com/example/compensa/compensa/CheckDigitsGeneralDigitPinLaw" = some m.cls := hown
  replace hml : c.maxLocals = 12 := hml
  replace hret : meth.sig.returnType = some .boolean := hret
  obtain ⟨S_GENERAL_DIGIT_WEIGHTS, A_GENERAL_DIGIT_WEIGHTS, Z_GENERAL_DIGIT_WEIGHTS, V_GENERAL_DIGIT_WEIGHTS_0, V_GENERAL_DIGIT_WEIGHTS_1, V_GENERAL_DIGIT_WEIGHTS_2, V_GENERAL_DIGIT_WEIGHTS_3, V_GENERAL_DIGIT_WEIGHTS_4, V_GENERAL_DIGIT_WEIGHTS_5, V_GENERAL_DIGIT_WEIGHTS_6, V_GENERAL_DIGIT_WEIGHTS_7, V_GENERAL_DIGIT_WEIGHTS_8, V_GENERAL_DIGIT_WEIGHTS_9, V_GENERAL_DIGIT_WEIGHTS_10, V_GENERAL_DIGIT_WEIGHTS_11, V_GENERAL_DIGIT_WEIGHTS_12, V_GENERAL_DIGIT_WEIGHTS_13, V_GENERAL_DIGIT_WEIGHTS_14, V_GENERAL_DIGIT_WEIGHTS_15, V_GENERAL_DIGIT_WEIGHTS_16, V_GENERAL_DIGIT_WEIGHTS_17, V_GENERAL_DIGIT_WEIGHTS_18, V_GENERAL_DIGIT_WEIGHTS_19, V_GENERAL_DIGIT_WEIGHTS_20, V_GENERAL_DIGIT_WEIGHTS_21, V_GENERAL_DIGIT_WEIGHTS_22, V_GENERAL_DIGIT_WEIGHTS_23, V_GENERAL_DIGIT_WEIGHTS_24, V_GENERAL_DIGIT_WEIGHTS_25, V_GENERAL_DIGIT_WEIGHTS_26, V_GENERAL_DIGIT_WEIGHTS_27, V_GENERAL_DIGIT_WEIGHTS_28, V_GENERAL_DIGIT_WEIGHTS_29, V_GENERAL_DIGIT_WEIGHTS_30, V_GENERAL_DIGIT_WEIGHTS_31, V_GENERAL_DIGIT_WEIGHTS_32, V_GENERAL_DIGIT_WEIGHTS_33, V_GENERAL_DIGIT_WEIGHTS_34, V_GENERAL_DIGIT_WEIGHTS_35, V_GENERAL_DIGIT_WEIGHTS_36, V_GENERAL_DIGIT_WEIGHTS_37, V_GENERAL_DIGIT_WEIGHTS_38, V_GENERAL_DIGIT_WEIGHTS_39, V_GENERAL_DIGIT_WEIGHTS_40, V_GENERAL_DIGIT_WEIGHTS_41, V_GENERAL_DIGIT_WEIGHTS_42, V_GENERAL_DIGIT_WEIGHTS_43⟩ := id B
  have N0 := Fr.nil n0
  have ef : entryFrame m #[.long i0, .long i1, .long i2, .int i3] maxLocals = (mkF m 0 #[.val (.long i0), .second, .val (.long i1), .second, .val (.long i2), .second, .val (.int i3), .unset, .unset, .unset, .unset, .unset] []) := by first | (simp [entryFrame, mkF, argsToLocals, Value.category, maxLocals]; done) | rfl
  rw [ef]
  refine own_go (fun t k => XS.bipush X0.here hx rfl (hb hby at_0) k) ?_
  show own_G p e below _ T0 (mkF m 2 #[.val (.long i0), .second, .val (.long i1), .second, .val (.long i2), .second, .val (.int i3), .unset, .unset, .unset, .unset, .unset] [(.int (44 : Int32))])
  obtain ⟨T1, h1, c1, X1, e1, E1, A1, st1⟩ := newP X0 hx hZ (hw _ (List.mem_of_getElem? (i := 0) rfl)) e0 (g := (mkF m 2 #[.val (.long i0), .second, .val (.long i1), .second, .val (.long i2), .second, .val (.int i3), .unset, .unset, .unset, .unset, .unset] [(.int (44 : Int32))])) rfl (hb hby at_2) rfl (by decide) (cap := 44) (by decide) (by decide) (by decide) (by decide)
  obtain ⟨a1, g1⟩ : ∃ z, z = h0.size := ⟨_, rfl⟩
  rw [← g1] at A1 st1
  replace A1 : Arr Z h1 a1 (own_cell c1 #[(.int 0), (.int 0), (.int 0), (.int 0), (.int 0), (.int 0), (.int 0), (.int 0), (.int 0), (.int 0), (.int 0), (.int 0), (.int 0), (.int 0), (.int 0), (.int 0), (.int 0), (.int 0), (.int 0), (.int 0), (.int 0), (.int 0), (.int 0), (.int 0), (.int 0), (.int 0), (.int 0), (.int 0), (.int 0), (.int 0), (.int 0), (.int 0), (.int 0), (.int 0), (.int 0), (.int 0), (.int 0), (.int 0), (.int 0), (.int 0), (.int 0), (.int 0), (.int 0), (.int 0)]) .char := A1
  have x1 : Ext h0 h1 := E1
  have j1 : h0.size ≤ a1 := Nat.le_of_eq g1.symm
  refine own_go st1 ?_
  show own_G p e below _ T1 (mkF m 4 #[.val (.long i0), .second, .val (.long i1), .second, .val (.long i2), .second, .val (.int i3), .unset, .unset, .unset, .unset, .unset] [(.ref a1)])
  refine own_go (fun t k => XS.astore X1.here hx rfl (hb hby at_4) rfl rfl (l' := #[.val (.long i0), .second, .val (.long i1), .second, .val (.long i2), .second, .val (.int i3), .val (.ref a1), .unset, .unset, .unset, .unset]) rfl k) ?_
  show own_G p e below _ T1 (mkF m 6 #[.val (.long i0), .second, .val (.long i1), .second, .val (.long i2), .second, .val (.int i3), .val (.ref a1), .unset, .unset, .unset, .unset] [])
  refine own_go (fun t k => XS.aload X1.here hx rfl (hb hby at_6) rfl rfl k) ?_
  show own_G p e below _ T1 (mkF m 8 #[.val (.long i0), .second, .val (.long i1), .second, .val (.long i2), .second, .val (.int i3), .val (.ref a1), .unset, .unset, .unset, .unset] [(.ref a1)])
  refine own_go (fun t k => XS.iconst X1.here hx rfl (hb hby at_8) k) ?_
  show own_G p e below _ T1 (mkF m 9 #[.val (.long i0), .second, .val (.long i1), .second, .val (.long i2), .second, .val (.int i3), .val (.ref a1), .unset, .unset, .unset, .unset] [(.int (0 : Int32)), (.ref a1)])
  refine own_go (fun t k => XT.lloadN X1.here hx rfl (hb hby at_9) rfl k) ?_
  show own_G p e below _ T1 (mkF m 10 #[.val (.long i0), .second, .val (.long i1), .second, .val (.long i2), .second, .val (.int i3), .val (.ref a1), .unset, .unset, .unset, .unset] [(.long i0), (.int (0 : Int32)), (.ref a1)])
  refine own_go (fun t k => XS.iconst X1.here hx rfl (hb hby at_10) k) ?_
  show own_G p e below _ T1 (mkF m 11 #[.val (.long i0), .second, .val (.long i1), .second, .val (.long i2), .second, .val (.int i3), .val (.ref a1), .unset, .unset, .unset, .unset] [(.int (0 : Int32)), (.long i0), (.int (0 : Int32)), (.ref a1)])
  obtain ⟨T2, L2, v2, X2, ⟨rfl, rfl, q2⟩, st2⟩ := own_callS X1 hx hZ (y := (⟨"com/example/compensa/compensa/CheckDigitsGeneralDigitPinLaw", "dg", "(JI)C"⟩ : MethodName)) hown (hw _ (List.mem_of_getElem? (i := 1) rfl)) (hw _ (List.mem_of_getElem? (i := 2) rfl)) (hw _ (List.mem_of_getElem? (i := 3) rfl)) (hw _ (List.mem_of_getElem? (i := 4) rfl)) (by decide) (c_dg l Z a0 hw i0 (0 : Int32) h1) e1 (argsL := [(.long i0), (.int (0 : Int32))]) (rest := [(.int (0 : Int32)), (.ref a1)]) (g := (mkF m 11 #[.val (.long i0), .second, .val (.long i1), .second, .val (.long i2), .second, .val (.int i3), .val (.ref a1), .unset, .unset, .unset, .unset] [(.int (0 : Int32)), (.long i0), (.int (0 : Int32)), (.ref a1)])) rfl (by rw [hml]; rfl) (ps := [.long, .int]) (r := (some .char)) (by decide +kernel) rfl rfl (W := 2) (by show 2 * 0 + _ ≤ _; exact Nat.le_of_eq rfl) (hb hby at_11) (by decide) (by decide) (by decide) (by decide)
  have N2 := Fr.app N0 (Fr.nil n0)
  refine own_go st2 ?_
  show own_G p e below _ T2 (mkF m 14 #[.val (.long i0), .second, .val (.long i1), .second, .val (.long i2), .second, .val (.int i3), .val (.ref a1), .unset, .unset, .unset, .unset] [(.int (own_dg i0 (0 : Int32))), (.int (0 : Int32)), (.ref a1)])
  obtain ⟨T3, h3, X3, e3, W3, st3⟩ := stC X2 hx hZ q2 A1 (j := (0 : Int32)) (own_in (n := 44) rfl (by decide)) (g := (mkF m 14 #[.val (.long i0), .second, .val (.long i1), .second, .val (.long i2), .second, .val (.int i3), .val (.ref a1), .unset, .unset, .unset, .unset] [(.int (own_dg i0 (0 : Int32))), (.int (0 : Int32)), (.ref a1)])) rfl rfl (hb hby at_14)
  have A3 : Arr Z h3 a1 (own_cell c1 #[(.int (nar .char (own_dg i0 (0 : Int32)))), (.int 0), (.int 0), (.int 0), (.int 0), (.int 0), (.int 0), (.int 0), (.int 0), (.int 0), (.int 0), (.int 0), (.int 0), (.int 0), (.int 0), (.int 0), (.int 0), (.int 0), (.int 0), (.int 0), (.int 0), (.int 0), (.int 0), (.int 0), (.int 0), (.int 0), (.int 0), (.int 0), (.int 0), (.int 0), (.int 0), (.int 0), (.int 0), (.int 0), (.int 0), (.int 0), (.int 0), (.int 0), (.int 0), (.int 0), (.int 0), (.int 0), (.int 0), (.int 0)]) .char := A1.same W3
  have x3 : Ext h0 h3 := own_ext_wr x1 W3 j1
  have N3 := Fr.snoc X3 N2 (Nat.le_trans Z0 j1)
  refine own_go st3 ?_
  show own_G p e below _ T3 (mkF m 15 #[.val (.long i0), .second, .val (.long i1), .second, .val (.long i2), .second, .val (.int i3), .val (.ref a1), .unset, .unset, .unset, .unset] [])
  refine own_go (fun t k => XS.aload X3.here hx rfl (hb hby at_15) rfl rfl k) ?_
  show own_G p e below _ T3 (mkF m 17 #[.val (.long i0), .second, .val (.long i1), .second, .val (.long i2), .second, .val (.int i3), .val (.ref a1), .unset, .unset, .unset, .unset] [(.ref a1)])
  refine own_go (fun t k => XS.iconst X3.here hx rfl (hb hby at_17) k) ?_
  show own_G p e below _ T3 (mkF m 18 #[.val (.long i0), .second, .val (.long i1), .second, .val (.long i2), .second, .val (.int i3), .val (.ref a1), .unset, .unset, .unset, .unset] [(.int (1 : Int32)), (.ref a1)])
  refine own_go (fun t k => XT.lloadN X3.here hx rfl (hb hby at_18) rfl k) ?_
  show own_G p e below _ T3 (mkF m 19 #[.val (.long i0), .second, .val (.long i1), .second, .val (.long i2), .second, .val (.int i3), .val (.ref a1), .unset, .unset, .unset, .unset] [(.long i0), (.int (1 : Int32)), (.ref a1)])
  refine own_go (fun t k => XS.iconst X3.here hx rfl (hb hby at_19) k) ?_
  show own_G p e below _ T3 (mkF m 20 #[.val (.long i0), .second, .val (.long i1), .second, .val (.long i2), .second, .val (.int i3), .val (.ref a1), .unset, .unset, .unset, .unset] [(.int (1 : Int32)), (.long i0), (.int (1 : Int32)), (.ref a1)])
  obtain ⟨T4, L4, v4, X4, ⟨rfl, rfl, q4⟩, st4⟩ := own_callS X3 hx hZ (y := (⟨"com/example/compensa/compensa/CheckDigitsGeneralDigitPinLaw", "dg", "(JI)C"⟩ : MethodName)) hown (hw _ (List.mem_of_getElem? (i := 1) rfl)) (hw _ (List.mem_of_getElem? (i := 2) rfl)) (hw _ (List.mem_of_getElem? (i := 3) rfl)) (hw _ (List.mem_of_getElem? (i := 4) rfl)) (by decide) (c_dg l Z a0 hw i0 (1 : Int32) h3) e3 (argsL := [(.long i0), (.int (1 : Int32))]) (rest := [(.int (1 : Int32)), (.ref a1)]) (g := (mkF m 20 #[.val (.long i0), .second, .val (.long i1), .second, .val (.long i2), .second, .val (.int i3), .val (.ref a1), .unset, .unset, .unset, .unset] [(.int (1 : Int32)), (.long i0), (.int (1 : Int32)), (.ref a1)])) rfl (by rw [hml]; rfl) (ps := [.long, .int]) (r := (some .char)) (by decide +kernel) rfl rfl (W := 2) (by show 2 * 0 + _ ≤ _; exact Nat.le_of_eq rfl) (hb hby at_20) (by decide) (by decide) (by decide) (by decide)
  have N4 := Fr.app N3 (Fr.nil n0)
  refine own_go st4 ?_
  show own_G p e below _ T4 (mkF m 23 #[.val (.long i0), .second, .val (.long i1), .second, .val (.long i2), .second, .val (.int i3), .val (.ref a1), .unset, .unset, .unset, .unset] [(.int (own_dg i0 (1 : Int32))), (.int (1 : Int32)), (.ref a1)])
  obtain ⟨T5, h5, X5, e5, W5, st5⟩ := stC X4 hx hZ q4 A3 (j := (1 : Int32)) (own_in (n := 44) rfl (by decide)) (g := (mkF m 23 #[.val (.long i0), .second, .val (.long i1), .second, .val (.long i2), .second, .val (.int i3), .val (.ref a1), .unset, .unset, .unset, .unset] [(.int (own_dg i0 (1 : Int32))), (.int (1 : Int32)), (.ref a1)])) rfl rfl (hb hby at_23)
  have A5 : Arr Z h5 a1 (own_cell c1 #[(.int (nar .char (own_dg i0 (0 : Int32)))), (.int (nar .char (own_dg i0 (1 : Int32)))), (.int 0), (.int 0), (.int 0), (.int 0), (.int 0), (.int 0), (.int 0), (.int 0), (.int 0), (.int 0), (.int 0), (.int 0), (.int 0), (.int 0), (.int 0), (.int 0), (.int 0), (.int 0), (.int 0), (.int 0), (.int 0), (.int 0), (.int 0), (.int 0), (.int 0), (.int 0), (.int 0), (.int 0), (.int 0), (.int 0), (.int 0), (.int 0), (.int 0), (.int 0), (.int 0), (.int 0), (.int 0), (.int 0), (.int 0), (.int 0), (.int 0), (.int 0)]) .char := A3.same W5
  have x5 : Ext h0 h5 := own_ext_wr x3 W5 j1
  have N5 := Fr.snoc X5 N4 (Nat.le_trans Z0 j1)
  refine own_go st5 ?_
  show own_G p e below _ T5 (mkF m 24 #[.val (.long i0), .second, .val (.long i1), .second, .val (.long i2), .second, .val (.int i3), .val (.ref a1), .unset, .unset, .unset, .unset] [])
  refine own_go (fun t k => XS.aload X5.here hx rfl (hb hby at_24) rfl rfl k) ?_
  show own_G p e below _ T5 (mkF m 26 #[.val (.long i0), .second, .val (.long i1), .second, .val (.long i2), .second, .val (.int i3), .val (.ref a1), .unset, .unset, .unset, .unset] [(.ref a1)])
  refine own_go (fun t k => XS.iconst X5.here hx rfl (hb hby at_26) k) ?_
  show own_G p e below _ T5 (mkF m 27 #[.val (.long i0), .second, .val (.long i1), .second, .val (.long i2), .second, .val (.int i3), .val (.ref a1), .unset, .unset, .unset, .unset] [(.int (2 : Int32)), (.ref a1)])
  refine own_go (fun t k => XT.lloadN X5.here hx rfl (hb hby at_27) rfl k) ?_
  show own_G p e below _ T5 (mkF m 28 #[.val (.long i0), .second, .val (.long i1), .second, .val (.long i2), .second, .val (.int i3), .val (.ref a1), .unset, .unset, .unset, .unset] [(.long i0), (.int (2 : Int32)), (.ref a1)])
  refine own_go (fun t k => XS.iconst X5.here hx rfl (hb hby at_28) k) ?_
  show own_G p e below _ T5 (mkF m 29 #[.val (.long i0), .second, .val (.long i1), .second, .val (.long i2), .second, .val (.int i3), .val (.ref a1), .unset, .unset, .unset, .unset] [(.int (2 : Int32)), (.long i0), (.int (2 : Int32)), (.ref a1)])
  obtain ⟨T6, L6, v6, X6, ⟨rfl, rfl, q6⟩, st6⟩ := own_callS X5 hx hZ (y := (⟨"com/example/compensa/compensa/CheckDigitsGeneralDigitPinLaw", "dg", "(JI)C"⟩ : MethodName)) hown (hw _ (List.mem_of_getElem? (i := 1) rfl)) (hw _ (List.mem_of_getElem? (i := 2) rfl)) (hw _ (List.mem_of_getElem? (i := 3) rfl)) (hw _ (List.mem_of_getElem? (i := 4) rfl)) (by decide) (c_dg l Z a0 hw i0 (2 : Int32) h5) e5 (argsL := [(.long i0), (.int (2 : Int32))]) (rest := [(.int (2 : Int32)), (.ref a1)]) (g := (mkF m 29 #[.val (.long i0), .second, .val (.long i1), .second, .val (.long i2), .second, .val (.int i3), .val (.ref a1), .unset, .unset, .unset, .unset] [(.int (2 : Int32)), (.long i0), (.int (2 : Int32)), (.ref a1)])) rfl (by rw [hml]; rfl) (ps := [.long, .int]) (r := (some .char)) (by decide +kernel) rfl rfl (W := 2) (by show 2 * 0 + _ ≤ _; exact Nat.le_of_eq rfl) (hb hby at_29) (by decide) (by decide) (by decide) (by decide)
  have N6 := Fr.app N5 (Fr.nil n0)
  refine own_go st6 ?_
  show own_G p e below _ T6 (mkF m 32 #[.val (.long i0), .second, .val (.long i1), .second, .val (.long i2), .second, .val (.int i3), .val (.ref a1), .unset, .unset, .unset, .unset] [(.int (own_dg i0 (2 : Int32))), (.int (2 : Int32)), (.ref a1)])
  obtain ⟨T7, h7, X7, e7, W7, st7⟩ := stC X6 hx hZ q6 A5 (j := (2 : Int32)) (own_in (n := 44) rfl (by decide)) (g := (mkF m 32 #[.val (.long i0), .second, .val (.long i1), .second, .val (.long i2), .second, .val (.int i3), .val (.ref a1), .unset, .unset, .unset, .unset] [(.int (own_dg i0 (2 : Int32))), (.int (2 : Int32)), (.ref a1)])) rfl rfl (hb hby at_32)
  have A7 : Arr Z h7 a1 (own_cell c1 #[(.int (nar .char (own_dg i0 (0 : Int32)))), (.int (nar .char (own_dg i0 (1 : Int32)))), (.int (nar .char (own_dg i0 (2 : Int32)))), (.int 0), (.int 0), (.int 0), (.int 0), (.int 0), (.int 0), (.int 0), (.int 0), (.int 0), (.int 0), (.int 0), (.int 0), (.int 0), (.int 0), (.int 0), (.int 0), (.int 0), (.int 0), (.int 0), (.int 0), (.int 0), (.int 0), (.int 0), (.int 0), (.int 0), (.int 0), (.int 0), (.int 0), (.int 0), (.int 0), (.int 0), (.int 0), (.int 0), (.int 0), (.int 0), (.int 0), (.int 0), (.int 0), (.int 0), (.int 0), (.int 0)]) .char := A5.same W7
  have x7 : Ext h0 h7 := own_ext_wr x5 W7 j1
  have N7 := Fr.snoc X7 N6 (Nat.le_trans Z0 j1)
  refine own_go st7 ?_
  show own_G p e below _ T7 (mkF m 33 #[.val (.long i0), .second, .val (.long i1), .second, .val (.long i2), .second, .val (.int i3), .val (.ref a1), .unset, .unset, .unset, .unset] [])
  refine own_go (fun t k => XS.aload X7.here hx rfl (hb hby at_33) rfl rfl k) ?_
  show own_G p e below _ T7 (mkF m 35 #[.val (.long i0), .second, .val (.long i1), .second, .val (.long i2), .second, .val (.int i3), .val (.ref a1), .unset, .unset, .unset, .unset] [(.ref a1)])
  refine own_go (fun t k => XS.iconst X7.here hx rfl (hb hby at_35) k) ?_
  show own_G p e below _ T7 (mkF m 36 #[.val (.long i0), .second, .val (.long i1), .second, .val (.long i2), .second, .val (.int i3), .val (.ref a1), .unset, .unset, .unset, .unset] [(.int (3 : Int32)), (.ref a1)])
  refine own_go (fun t k => XT.lloadN X7.here hx rfl (hb hby at_36) rfl k) ?_
  show own_G p e below _ T7 (mkF m 37 #[.val (.long i0), .second, .val (.long i1), .second, .val (.long i2), .second, .val (.int i3), .val (.ref a1), .unset, .unset, .unset, .unset] [(.long i0), (.int (3 : Int32)), (.ref a1)])
  refine own_go (fun t k => XS.iconst X7.here hx rfl (hb hby at_37) k) ?_
  show own_G p e below _ T7 (mkF m 38 #[.val (.long i0), .second, .val (.long i1), .second, .val (.long i2), .second, .val (.int i3), .val (.ref a1), .unset, .unset, .unset, .unset] [(.int (3 : Int32)), (.long i0), (.int (3 : Int32)), (.ref a1)])
  obtain ⟨T8, L8, v8, X8, ⟨rfl, rfl, q8⟩, st8⟩ := own_callS X7 hx hZ (y := (⟨"com/example/compensa/compensa/CheckDigitsGeneralDigitPinLaw", "dg", "(JI)C"⟩ : MethodName)) hown (hw _ (List.mem_of_getElem? (i := 1) rfl)) (hw _ (List.mem_of_getElem? (i := 2) rfl)) (hw _ (List.mem_of_getElem? (i := 3) rfl)) (hw _ (List.mem_of_getElem? (i := 4) rfl)) (by decide) (c_dg l Z a0 hw i0 (3 : Int32) h7) e7 (argsL := [(.long i0), (.int (3 : Int32))]) (rest := [(.int (3 : Int32)), (.ref a1)]) (g := (mkF m 38 #[.val (.long i0), .second, .val (.long i1), .second, .val (.long i2), .second, .val (.int i3), .val (.ref a1), .unset, .unset, .unset, .unset] [(.int (3 : Int32)), (.long i0), (.int (3 : Int32)), (.ref a1)])) rfl (by rw [hml]; rfl) (ps := [.long, .int]) (r := (some .char)) (by decide +kernel) rfl rfl (W := 2) (by show 2 * 0 + _ ≤ _; exact Nat.le_of_eq rfl) (hb hby at_38) (by decide) (by decide) (by decide) (by decide)
  have N8 := Fr.app N7 (Fr.nil n0)
  refine own_go st8 ?_
  show own_G p e below _ T8 (mkF m 41 #[.val (.long i0), .second, .val (.long i1), .second, .val (.long i2), .second, .val (.int i3), .val (.ref a1), .unset, .unset, .unset, .unset] [(.int (own_dg i0 (3 : Int32))), (.int (3 : Int32)), (.ref a1)])
  obtain ⟨T9, h9, X9, e9, W9, st9⟩ := stC X8 hx hZ q8 A7 (j := (3 : Int32)) (own_in (n := 44) rfl (by decide)) (g := (mkF m 41 #[.val (.long i0), .second, .val (.long i1), .second, .val (.long i2), .second, .val (.int i3), .val (.ref a1), .unset, .unset, .unset, .unset] [(.int (own_dg i0 (3 : Int32))), (.int (3 : Int32)), (.ref a1)])) rfl rfl (hb hby at_41)
  have A9 : Arr Z h9 a1 (own_cell c1 #[(.int (nar .char (own_dg i0 (0 : Int32)))), (.int (nar .char (own_dg i0 (1 : Int32)))), (.int (nar .char (own_dg i0 (2 : Int32)))), (.int (nar .char (own_dg i0 (3 : Int32)))), (.int 0), (.int 0), (.int 0), (.int 0), (.int 0), (.int 0), (.int 0), (.int 0), (.int 0), (.int 0), (.int 0), (.int 0), (.int 0), (.int 0), (.int 0), (.int 0), (.int 0), (.int 0), (.int 0), (.int 0), (.int 0), (.int 0), (.int 0), (.int 0), (.int 0), (.int 0), (.int 0), (.int 0), (.int 0), (.int 0), (.int 0), (.int 0), (.int 0), (.int 0), (.int 0), (.int 0), (.int 0), (.int 0), (.int 0), (.int 0)]) .char := A7.same W9
  have x9 : Ext h0 h9 := own_ext_wr x7 W9 j1
  have N9 := Fr.snoc X9 N8 (Nat.le_trans Z0 j1)
  refine own_go st9 ?_
  show own_G p e below _ T9 (mkF m 42 #[.val (.long i0), .second, .val (.long i1), .second, .val (.long i2), .second, .val (.int i3), .val (.ref a1), .unset, .unset, .unset, .unset] [])
  refine own_go (fun t k => XS.aload X9.here hx rfl (hb hby at_42) rfl rfl k) ?_
  show own_G p e below _ T9 (mkF m 44 #[.val (.long i0), .second, .val (.long i1), .second, .val (.long i2), .second, .val (.int i3), .val (.ref a1), .unset, .unset, .unset, .unset] [(.ref a1)])
  refine own_go (fun t k => XS.iconst X9.here hx rfl (hb hby at_44) k) ?_
  show own_G p e below _ T9 (mkF m 45 #[.val (.long i0), .second, .val (.long i1), .second, .val (.long i2), .second, .val (.int i3), .val (.ref a1), .unset, .unset, .unset, .unset] [(.int (4 : Int32)), (.ref a1)])
  refine own_go (fun t k => XS.iload X9.here hx rfl (hb hby at_45) rfl k) ?_
  show own_G p e below _ T9 (mkF m 47 #[.val (.long i0), .second, .val (.long i1), .second, .val (.long i2), .second, .val (.int i3), .val (.ref a1), .unset, .unset, .unset, .unset] [(.int i3), (.int (4 : Int32)), (.ref a1)])
  refine own_go (fun t k => XS.sipush X9.here hx rfl (hb hby at_47) k) ?_
  show own_G p e below _ T9 (mkF m 50 #[.val (.long i0), .second, .val (.long i1), .second, .val (.long i2), .second, .val (.int i3), .val (.ref a1), .unset, .unset, .unset, .unset] [(.int (255 : Int32)), (.int i3), (.int (4 : Int32)), (.ref a1)])
  refine own_go (fun t k => XS.iand X9.here hx rfl (hb hby at_50) rfl k) ?_
  show own_G p e below _ T9 (mkF m 51 #[.val (.long i0), .second, .val (.long i1), .second, .val (.long i2), .second, .val (.int i3), .val (.ref a1), .unset, .unset, .unset, .unset] [(.int (i3 &&& (255 : Int32))), (.int (4 : Int32)), (.ref a1)])
  refine own_go (fun t k => XT.i2c X9.here hx rfl (hb hby at_51) rfl k) ?_
  show own_G p e below _ T9 (mkF m 52 #[.val (.long i0), .second, .val (.long i1), .second, .val (.long i2), .second, .val (.int i3), .val (.ref a1), .unset, .unset, .unset, .unset] [(.int (i3 &&& (255 : Int32)).toUInt32.toUInt16.toUInt32.toInt32), (.int (4 : Int32)), (.ref a1)])
  obtain ⟨T10, h10, X10, e10, W10, st10⟩ := stC X9 hx hZ e9 A9 (j := (4 : Int32)) (own_in (n := 44) rfl (by decide)) (g := (mkF m 52 #[.val (.long i0), .second, .val (.long i1), .second, .val (.long i2), .second, .val (.int i3), .val (.ref a1), .unset, .unset, .unset, .unset] [(.int (i3 &&& (255 : Int32)).toUInt32.toUInt16.toUInt32.toInt32), (.int (4 : Int32)), (.ref a1)])) rfl rfl (hb hby at_52)
  have A10 : Arr Z h10 a1 (own_cell c1 #[(.int (nar .char (own_dg i0 (0 : Int32)))), (.int (nar .char (own_dg i0 (1 : Int32)))), (.int (nar .char (own_dg i0 (2 : Int32)))), (.int (nar .char (own_dg i0 (3 : Int32)))), (.int (nar .char (i3 &&& (255 : Int32)).toUInt32.toUInt16.toUInt32.toInt32)), (.int 0), (.int 0), (.int 0), (.int 0), (.int 0), (.int 0), (.int 0), (.int 0), (.int 0), (.int 0), (.int 0), (.int 0), (.int 0), (.int 0), (.int 0), (.int 0), (.int 0), (.int 0), (.int 0), (.int 0), (.int 0), (.int 0), (.int 0), (.int 0), (.int 0), (.int 0), (.int 0), (.int 0), (.int 0), (.int 0), (.int 0), (.int 0), (.int 0), (.int 0), (.int 0), (.int 0), (.int 0), (.int 0), (.int 0)]) .char := A9.same W10
  have x10 : Ext h0 h10 := own_ext_wr x9 W10 j1
  have N10 := Fr.snoc X10 N9 (Nat.le_trans Z0 j1)
  refine own_go st10 ?_
  show own_G p e below _ T10 (mkF m 53 #[.val (.long i0), .second, .val (.long i1), .second, .val (.long i2), .second, .val (.int i3), .val (.ref a1), .unset, .unset, .unset, .unset] [])
  refine own_go (fun t k => XS.aload X10.here hx rfl (hb hby at_53) rfl rfl k) ?_
  show own_G p e below _ T10 (mkF m 55 #[.val (.long i0), .second, .val (.long i1), .second, .val (.long i2), .second, .val (.int i3), .val (.ref a1), .unset, .unset, .unset, .unset] [(.ref a1)])
  refine own_go (fun t k => XS.iconst X10.here hx rfl (hb hby at_55) k) ?_
  show own_G p e below _ T10 (mkF m 56 #[.val (.long i0), .second, .val (.long i1), .second, .val (.long i2), .second, .val (.int i3), .val (.ref a1), .unset, .unset, .unset, .unset] [(.int (5 : Int32)), (.ref a1)])
  refine own_go (fun t k => XT.lloadN X10.here hx rfl (hb hby at_56) rfl k) ?_
  show own_G p e below _ T10 (mkF m 57 #[.val (.long i0), .second, .val (.long i1), .second, .val (.long i2), .second, .val (.int i3), .val (.ref a1), .unset, .unset, .unset, .unset] [(.long i0), (.int (5 : Int32)), (.ref a1)])
  refine own_go (fun t k => XS.iconst X10.here hx rfl (hb hby at_57) k) ?_
  show own_G p e below _ T10 (mkF m 58 #[.val (.long i0), .second, .val (.long i1), .second, .val (.long i2), .second, .val (.int i3), .val (.ref a1), .unset, .unset, .unset, .unset] [(.int (5 : Int32)), (.long i0), (.int (5 : Int32)), (.ref a1)])
  obtain ⟨T11, L11, v11, X11, ⟨rfl, rfl, q11⟩, st11⟩ := own_callS X10 hx hZ (y := (⟨"com/example/compensa/compensa/CheckDigitsGeneralDigitPinLaw", "dg", "(JI)C"⟩ : MethodName)) hown (hw _ (List.mem_of_getElem? (i := 1) rfl)) (hw _ (List.mem_of_getElem? (i := 2) rfl)) (hw _ (List.mem_of_getElem? (i := 3) rfl)) (hw _ (List.mem_of_getElem? (i := 4) rfl)) (by decide) (c_dg l Z a0 hw i0 (5 : Int32) h10) e10 (argsL := [(.long i0), (.int (5 : Int32))]) (rest := [(.int (5 : Int32)), (.ref a1)]) (g := (mkF m 58 #[.val (.long i0), .second, .val (.long i1), .second, .val (.long i2), .second, .val (.int i3), .val (.ref a1), .unset, .unset, .unset, .unset] [(.int (5 : Int32)), (.long i0), (.int (5 : Int32)), (.ref a1)])) rfl (by rw [hml]; rfl) (ps := [.long, .int]) (r := (some .char)) (by decide +kernel) rfl rfl (W := 2) (by show 2 * 0 + _ ≤ _; exact Nat.le_of_eq rfl) (hb hby at_58) (by decide) (by decide) (by decide) (by decide)
  have N11 := Fr.app N10 (Fr.nil n0)
  refine own_go st11 ?_
  show own_G p e below _ T11 (mkF m 61 #[.val (.long i0), .second, .val (.long i1), .second, .val (.long i2), .second, .val (.int i3), .val (.ref a1), .unset, .unset, .unset, .unset] [(.int (own_dg i0 (5 : Int32))), (.int (5 : Int32)), (.ref a1)])
  obtain ⟨T12, h12, X12, e12, W12, st12⟩ := stC X11 hx hZ q11 A10 (j := (5 : Int32)) (own_in (n := 44) rfl (by decide)) (g := (mkF m 61 #[.val (.long i0), .second, .val (.long i1), .second, .val (.long i2), .second, .val (.int i3), .val (.ref a1), .unset, .unset, .unset, .unset] [(.int (own_dg i0 (5 : Int32))), (.int (5 : Int32)), (.ref a1)])) rfl rfl (hb hby at_61)
  have A12 : Arr Z h12 a1 (own_cell c1 #[(.int (nar .char (own_dg i0 (0 : Int32)))), (.int (nar .char (own_dg i0 (1 : Int32)))), (.int (nar .char (own_dg i0 (2 : Int32)))), (.int (nar .char (own_dg i0 (3 : Int32)))), (.int (nar .char (i3 &&& (255 : Int32)).toUInt32.toUInt16.toUInt32.toInt32)), (.int (nar .char (own_dg i0 (5 : Int32)))), (.int 0), (.int 0), (.int 0), (.int 0), (.int 0), (.int 0), (.int 0), (.int 0), (.int 0), (.int 0), (.int 0), (.int 0), (.int 0), (.int 0), (.int 0), (.int 0), (.int 0), (.int 0), (.int 0), (.int 0), (.int 0), (.int 0), (.int 0), (.int 0), (.int 0), (.int 0), (.int 0), (.int 0), (.int 0), (.int 0), (.int 0), (.int 0), (.int 0), (.int 0), (.int 0), (.int 0), (.int 0), (.int 0)]) .char := A10.same W12
  have x12 : Ext h0 h12 := own_ext_wr x10 W12 j1
  have N12 := Fr.snoc X12 N11 (Nat.le_trans Z0 j1)
  refine own_go st12 ?_
  show own_G p e below _ T12 (mkF m 62 #[.val (.long i0), .second, .val (.long i1), .second, .val (.long i2), .second, .val (.int i3), .val (.ref a1), .unset, .unset, .unset, .unset] [])
  refine own_go (fun t k => XS.aload X12.here hx rfl (hb hby at_62) rfl rfl k) ?_
  show own_G p e below _ T12 (mkF m 64 #[.val (.long i0), .second, .val (.long i1), .second, .val (.long i2), .second, .val (.int i3), .val (.ref a1), .unset, .unset, .unset, .unset] [(.ref a1)])
  refine own_go (fun t k => XS.bipush X12.here hx rfl (hb hby at_64) k) ?_
  show own_G p e below _ T12 (mkF m 66 #[.val (.long i0), .second, .val (.long i1), .second, .val (.long i2), .second, .val (.int i3), .val (.ref a1), .unset, .unset, .unset, .unset] [(.int (6 : Int32)), (.ref a1)])
  refine own_go (fun t k => XT.lloadN X12.here hx rfl (hb hby at_66) rfl k) ?_
  show own_G p e below _ T12 (mkF m 67 #[.val (.long i0), .second, .val (.long i1), .second, .val (.long i2), .second, .val (.int i3), .val (.ref a1), .unset, .unset, .unset, .unset] [(.long i0), (.int (6 : Int32)), (.ref a1)])
  refine own_go (fun t k => XS.bipush X12.here hx rfl (hb hby at_67) k) ?_
  show own_G p e below _ T12 (mkF m 69 #[.val (.long i0), .second, .val (.long i1), .second, .val (.long i2), .second, .val (.int i3), .val (.ref a1), .unset, .unset, .unset, .unset] [(.int (6 : Int32)), (.long i0), (.int (6 : Int32)), (.ref a1)])
  obtain ⟨T13, L13, v13, X13, ⟨rfl, rfl, q13⟩, st13⟩ := own_callS X12 hx hZ (y := (⟨"com/example/compensa/compensa/CheckDigitsGeneralDigitPinLaw", "dg", "(JI)C"⟩ : MethodName)) hown (hw _ (List.mem_of_getElem? (i := 1) rfl)) (hw _ (List.mem_of_getElem? (i := 2) rfl)) (hw _ (List.mem_of_getElem? (i := 3) rfl)) (hw _ (List.mem_of_getElem? (i := 4) rfl)) (by decide) (c_dg l Z a0 hw i0 (6 : Int32) h12) e12 (argsL := [(.long i0), (.int (6 : Int32))]) (rest := [(.int (6 : Int32)), (.ref a1)]) (g := (mkF m 69 #[.val (.long i0), .second, .val (.long i1), .second, .val (.long i2), .second, .val (.int i3), .val (.ref a1), .unset, .unset, .unset, .unset] [(.int (6 : Int32)), (.long i0), (.int (6 : Int32)), (.ref a1)])) rfl (by rw [hml]; rfl) (ps := [.long, .int]) (r := (some .char)) (by decide +kernel) rfl rfl (W := 2) (by show 2 * 0 + _ ≤ _; exact Nat.le_of_eq rfl) (hb hby at_69) (by decide) (by decide) (by decide) (by decide)
  have N13 := Fr.app N12 (Fr.nil n0)
  refine own_go st13 ?_
  show own_G p e below _ T13 (mkF m 72 #[.val (.long i0), .second, .val (.long i1), .second, .val (.long i2), .second, .val (.int i3), .val (.ref a1), .unset, .unset, .unset, .unset] [(.int (own_dg i0 (6 : Int32))), (.int (6 : Int32)), (.ref a1)])
  obtain ⟨T14, h14, X14, e14, W14, st14⟩ := stC X13 hx hZ q13 A12 (j := (6 : Int32)) (own_in (n := 44) rfl (by decide)) (g := (mkF m 72 #[.val (.long i0), .second, .val (.long i1), .second, .val (.long i2), .second, .val (.int i3), .val (.ref a1), .unset, .unset, .unset, .unset] [(.int (own_dg i0 (6 : Int32))), (.int (6 : Int32)), (.ref a1)])) rfl rfl (hb hby at_72)
  have A14 : Arr Z h14 a1 (own_cell c1 #[(.int (nar .char (own_dg i0 (0 : Int32)))), (.int (nar .char (own_dg i0 (1 : Int32)))), (.int (nar .char (own_dg i0 (2 : Int32)))), (.int (nar .char (own_dg i0 (3 : Int32)))), (.int (nar .char (i3 &&& (255 : Int32)).toUInt32.toUInt16.toUInt32.toInt32)), (.int (nar .char (own_dg i0 (5 : Int32)))), (.int (nar .char (own_dg i0 (6 : Int32)))), (.int 0), (.int 0), (.int 0), (.int 0), (.int 0), (.int 0), (.int 0), (.int 0), (.int 0), (.int 0), (.int 0), (.int 0), (.int 0), (.int 0), (.int 0), (.int 0), (.int 0), (.int 0), (.int 0), (.int 0), (.int 0), (.int 0), (.int 0), (.int 0), (.int 0), (.int 0), (.int 0), (.int 0), (.int 0), (.int 0), (.int 0), (.int 0), (.int 0), (.int 0), (.int 0), (.int 0), (.int 0)]) .char := A12.same W14
  have x14 : Ext h0 h14 := own_ext_wr x12 W14 j1
  have N14 := Fr.snoc X14 N13 (Nat.le_trans Z0 j1)
  refine own_go st14 ?_
  show own_G p e below _ T14 (mkF m 73 #[.val (.long i0), .second, .val (.long i1), .second, .val (.long i2), .second, .val (.int i3), .val (.ref a1), .unset, .unset, .unset, .unset] [])
  refine own_go (fun t k => XS.aload X14.here hx rfl (hb hby at_73) rfl rfl k) ?_
  show own_G p e below _ T14 (mkF m 75 #[.val (.long i0), .second, .val (.long i1), .second, .val (.long i2), .second, .val (.int i3), .val (.ref a1), .unset, .unset, .unset, .unset] [(.ref a1)])
  refine own_go (fun t k => XS.bipush X14.here hx rfl (hb hby at_75) k) ?_
  show own_G p e below _ T14 (mkF m 77 #[.val (.long i0), .second, .val (.long i1), .second, .val (.long i2), .second, .val (.int i3), .val (.ref a1), .unset, .unset, .unset, .unset] [(.int (7 : Int32)), (.ref a1)])
  refine own_go (fun t k => XT.lloadN X14.here hx rfl (hb hby at_77) rfl k) ?_
  show own_G p e below _ T14 (mkF m 78 #[.val (.long i0), .second, .val (.long i1), .second, .val (.long i2), .second, .val (.int i3), .val (.ref a1), .unset, .unset, .unset, .unset] [(.long i0), (.int (7 : Int32)), (.ref a1)])
  refine own_go (fun t k => XS.bipush X14.here hx rfl (hb hby at_78) k) ?_
  show own_G p e below _ T14 (mkF m 80 #[.val (.long i0), .second, .val (.long i1), .second, .val (.long i2), .second, .val (.int i3), .val (.ref a1), .unset, .unset, .unset, .unset] [(.int (7 : Int32)), (.long i0), (.int (7 : Int32)), (.ref a1)])
  obtain ⟨T15, L15, v15, X15, ⟨rfl, rfl, q15⟩, st15⟩ := own_callS X14 hx hZ (y := (⟨"com/example/compensa/compensa/CheckDigitsGeneralDigitPinLaw", "dg", "(JI)C"⟩ : MethodName)) hown (hw _ (List.mem_of_getElem? (i := 1) rfl)) (hw _ (List.mem_of_getElem? (i := 2) rfl)) (hw _ (List.mem_of_getElem? (i := 3) rfl)) (hw _ (List.mem_of_getElem? (i := 4) rfl)) (by decide) (c_dg l Z a0 hw i0 (7 : Int32) h14) e14 (argsL := [(.long i0), (.int (7 : Int32))]) (rest := [(.int (7 : Int32)), (.ref a1)]) (g := (mkF m 80 #[.val (.long i0), .second, .val (.long i1), .second, .val (.long i2), .second, .val (.int i3), .val (.ref a1), .unset, .unset, .unset, .unset] [(.int (7 : Int32)), (.long i0), (.int (7 : Int32)), (.ref a1)])) rfl (by rw [hml]; rfl) (ps := [.long, .int]) (r := (some .char)) (by decide +kernel) rfl rfl (W := 2) (by show 2 * 0 + _ ≤ _; exact Nat.le_of_eq rfl) (hb hby at_80) (by decide) (by decide) (by decide) (by decide)
  have N15 := Fr.app N14 (Fr.nil n0)
  refine own_go st15 ?_
  show own_G p e below _ T15 (mkF m 83 #[.val (.long i0), .second, .val (.long i1), .second, .val (.long i2), .second, .val (.int i3), .val (.ref a1), .unset, .unset, .unset, .unset] [(.int (own_dg i0 (7 : Int32))), (.int (7 : Int32)), (.ref a1)])
  obtain ⟨T16, h16, X16, e16, W16, st16⟩ := stC X15 hx hZ q15 A14 (j := (7 : Int32)) (own_in (n := 44) rfl (by decide)) (g := (mkF m 83 #[.val (.long i0), .second, .val (.long i1), .second, .val (.long i2), .second, .val (.int i3), .val (.ref a1), .unset, .unset, .unset, .unset] [(.int (own_dg i0 (7 : Int32))), (.int (7 : Int32)), (.ref a1)])) rfl rfl (hb hby at_83)
  have A16 : Arr Z h16 a1 (own_cell c1 #[(.int (nar .char (own_dg i0 (0 : Int32)))), (.int (nar .char (own_dg i0 (1 : Int32)))), (.int (nar .char (own_dg i0 (2 : Int32)))), (.int (nar .char (own_dg i0 (3 : Int32)))), (.int (nar .char (i3 &&& (255 : Int32)).toUInt32.toUInt16.toUInt32.toInt32)), (.int (nar .char (own_dg i0 (5 : Int32)))), (.int (nar .char (own_dg i0 (6 : Int32)))), (.int (nar .char (own_dg i0 (7 : Int32)))), (.int 0), (.int 0), (.int 0), (.int 0), (.int 0), (.int 0), (.int 0), (.int 0), (.int 0), (.int 0), (.int 0), (.int 0), (.int 0), (.int 0), (.int 0), (.int 0), (.int 0), (.int 0), (.int 0), (.int 0), (.int 0), (.int 0), (.int 0), (.int 0), (.int 0), (.int 0), (.int 0), (.int 0), (.int 0), (.int 0), (.int 0), (.int 0), (.int 0), (.int 0), (.int 0), (.int 0)]) .char := A14.same W16
  have x16 : Ext h0 h16 := own_ext_wr x14 W16 j1
  have N16 := Fr.snoc X16 N15 (Nat.le_trans Z0 j1)
  refine own_go st16 ?_
  show own_G p e below _ T16 (mkF m 84 #[.val (.long i0), .second, .val (.long i1), .second, .val (.long i2), .second, .val (.int i3), .val (.ref a1), .unset, .unset, .unset, .unset] [])
  refine own_go (fun t k => XS.aload X16.here hx rfl (hb hby at_84) rfl rfl k) ?_
  show own_G p e below _ T16 (mkF m 86 #[.val (.long i0), .second, .val (.long i1), .second, .val (.long i2), .second, .val (.int i3), .val (.ref a1), .unset, .unset, .unset, .unset] [(.ref a1)])
  refine own_go (fun t k => XS.bipush X16.here hx rfl (hb hby at_86) k) ?_
  show own_G p e below _ T16 (mkF m 88 #[.val (.long i0), .second, .val (.long i1), .second, .val (.long i2), .second, .val (.int i3), .val (.ref a1), .unset, .unset, .unset, .unset] [(.int (8 : Int32)), (.ref a1)])
  refine own_go (fun t k => XT.lloadN X16.here hx rfl (hb hby at_88) rfl k) ?_
  show own_G p e below _ T16 (mkF m 89 #[.val (.long i0), .second, .val (.long i1), .second, .val (.long i2), .second, .val (.int i3), .val (.ref a1), .unset, .unset, .unset, .unset] [(.long i0), (.int (8 : Int32)), (.ref a1)])
  refine own_go (fun t k => XS.bipush X16.here hx rfl (hb hby at_89) k) ?_
  show own_G p e below _ T16 (mkF m 91 #[.val (.long i0), .second, .val (.long i1), .second, .val (.long i2), .second, .val (.int i3), .val (.ref a1), .unset, .unset, .unset, .unset] [(.int (8 : Int32)), (.long i0), (.int (8 : Int32)), (.ref a1)])
  obtain ⟨T17, L17, v17, X17, ⟨rfl, rfl, q17⟩, st17⟩ := own_callS X16 hx hZ (y := (⟨"com/example/compensa/compensa/CheckDigitsGeneralDigitPinLaw", "dg", "(JI)C"⟩ : MethodName)) hown (hw _ (List.mem_of_getElem? (i := 1) rfl)) (hw _ (List.mem_of_getElem? (i := 2) rfl)) (hw _ (List.mem_of_getElem? (i := 3) rfl)) (hw _ (List.mem_of_getElem? (i := 4) rfl)) (by decide) (c_dg l Z a0 hw i0 (8 : Int32) h16) e16 (argsL := [(.long i0), (.int (8 : Int32))]) (rest := [(.int (8 : Int32)), (.ref a1)]) (g := (mkF m 91 #[.val (.long i0), .second, .val (.long i1), .second, .val (.long i2), .second, .val (.int i3), .val (.ref a1), .unset, .unset, .unset, .unset] [(.int (8 : Int32)), (.long i0), (.int (8 : Int32)), (.ref a1)])) rfl (by rw [hml]; rfl) (ps := [.long, .int]) (r := (some .char)) (by decide +kernel) rfl rfl (W := 2) (by show 2 * 0 + _ ≤ _; exact Nat.le_of_eq rfl) (hb hby at_91) (by decide) (by decide) (by decide) (by decide)
  have N17 := Fr.app N16 (Fr.nil n0)
  refine own_go st17 ?_
  show own_G p e below _ T17 (mkF m 94 #[.val (.long i0), .second, .val (.long i1), .second, .val (.long i2), .second, .val (.int i3), .val (.ref a1), .unset, .unset, .unset, .unset] [(.int (own_dg i0 (8 : Int32))), (.int (8 : Int32)), (.ref a1)])
  obtain ⟨T18, h18, X18, e18, W18, st18⟩ := stC X17 hx hZ q17 A16 (j := (8 : Int32)) (own_in (n := 44) rfl (by decide)) (g := (mkF m 94 #[.val (.long i0), .second, .val (.long i1), .second, .val (.long i2), .second, .val (.int i3), .val (.ref a1), .unset, .unset, .unset, .unset] [(.int (own_dg i0 (8 : Int32))), (.int (8 : Int32)), (.ref a1)])) rfl rfl (hb hby at_94)
  have A18 : Arr Z h18 a1 (own_cell c1 #[(.int (nar .char (own_dg i0 (0 : Int32)))), (.int (nar .char (own_dg i0 (1 : Int32)))), (.int (nar .char (own_dg i0 (2 : Int32)))), (.int (nar .char (own_dg i0 (3 : Int32)))), (.int (nar .char (i3 &&& (255 : Int32)).toUInt32.toUInt16.toUInt32.toInt32)), (.int (nar .char (own_dg i0 (5 : Int32)))), (.int (nar .char (own_dg i0 (6 : Int32)))), (.int (nar .char (own_dg i0 (7 : Int32)))), (.int (nar .char (own_dg i0 (8 : Int32)))), (.int 0), (.int 0), (.int 0), (.int 0), (.int 0), (.int 0), (.int 0), (.int 0), (.int 0), (.int 0), (.int 0), (.int 0), (.int 0), (.int 0), (.int 0), (.int 0), (.int 0), (.int 0), (.int 0), (.int 0), (.int 0), (.int 0), (.int 0), (.int 0), (.int 0), (.int 0), (.int 0), (.int 0), (.int 0), (.int 0), (.int 0), (.int 0), (.int 0), (.int 0), (.int 0)]) .char := A16.same W18
  have x18 : Ext h0 h18 := own_ext_wr x16 W18 j1
  have N18 := Fr.snoc X18 N17 (Nat.le_trans Z0 j1)
  refine own_go st18 ?_
  show own_G p e below _ T18 (mkF m 95 #[.val (.long i0), .second, .val (.long i1), .second, .val (.long i2), .second, .val (.int i3), .val (.ref a1), .unset, .unset, .unset, .unset] [])
  refine own_go (fun t k => XS.aload X18.here hx rfl (hb hby at_95) rfl rfl k) ?_
  show own_G p e below _ T18 (mkF m 97 #[.val (.long i0), .second, .val (.long i1), .second, .val (.long i2), .second, .val (.int i3), .val (.ref a1), .unset, .unset, .unset, .unset] [(.ref a1)])
  refine own_go (fun t k => XS.bipush X18.here hx rfl (hb hby at_97) k) ?_
  show own_G p e below _ T18 (mkF m 99 #[.val (.long i0), .second, .val (.long i1), .second, .val (.long i2), .second, .val (.int i3), .val (.ref a1), .unset, .unset, .unset, .unset] [(.int (9 : Int32)), (.ref a1)])
  refine own_go (fun t k => XT.lloadN X18.here hx rfl (hb hby at_99) rfl k) ?_
  show own_G p e below _ T18 (mkF m 100 #[.val (.long i0), .second, .val (.long i1), .second, .val (.long i2), .second, .val (.int i3), .val (.ref a1), .unset, .unset, .unset, .unset] [(.long i0), (.int (9 : Int32)), (.ref a1)])
  refine own_go (fun t k => XS.bipush X18.here hx rfl (hb hby at_100) k) ?_
  show own_G p e below _ T18 (mkF m 102 #[.val (.long i0), .second, .val (.long i1), .second, .val (.long i2), .second, .val (.int i3), .val (.ref a1), .unset, .unset, .unset, .unset] [(.int (9 : Int32)), (.long i0), (.int (9 : Int32)), (.ref a1)])
  obtain ⟨T19, L19, v19, X19, ⟨rfl, rfl, q19⟩, st19⟩ := own_callS X18 hx hZ (y := (⟨"com/example/compensa/compensa/CheckDigitsGeneralDigitPinLaw", "dg", "(JI)C"⟩ : MethodName)) hown (hw _ (List.mem_of_getElem? (i := 1) rfl)) (hw _ (List.mem_of_getElem? (i := 2) rfl)) (hw _ (List.mem_of_getElem? (i := 3) rfl)) (hw _ (List.mem_of_getElem? (i := 4) rfl)) (by decide) (c_dg l Z a0 hw i0 (9 : Int32) h18) e18 (argsL := [(.long i0), (.int (9 : Int32))]) (rest := [(.int (9 : Int32)), (.ref a1)]) (g := (mkF m 102 #[.val (.long i0), .second, .val (.long i1), .second, .val (.long i2), .second, .val (.int i3), .val (.ref a1), .unset, .unset, .unset, .unset] [(.int (9 : Int32)), (.long i0), (.int (9 : Int32)), (.ref a1)])) rfl (by rw [hml]; rfl) (ps := [.long, .int]) (r := (some .char)) (by decide +kernel) rfl rfl (W := 2) (by show 2 * 0 + _ ≤ _; exact Nat.le_of_eq rfl) (hb hby at_102) (by decide) (by decide) (by decide) (by decide)
  have N19 := Fr.app N18 (Fr.nil n0)
  refine own_go st19 ?_
  show own_G p e below _ T19 (mkF m 105 #[.val (.long i0), .second, .val (.long i1), .second, .val (.long i2), .second, .val (.int i3), .val (.ref a1), .unset, .unset, .unset, .unset] [(.int (own_dg i0 (9 : Int32))), (.int (9 : Int32)), (.ref a1)])
  obtain ⟨T20, h20, X20, e20, W20, st20⟩ := stC X19 hx hZ q19 A18 (j := (9 : Int32)) (own_in (n := 44) rfl (by decide)) (g := (mkF m 105 #[.val (.long i0), .second, .val (.long i1), .second, .val (.long i2), .second, .val (.int i3), .val (.ref a1), .unset, .unset, .unset, .unset] [(.int (own_dg i0 (9 : Int32))), (.int (9 : Int32)), (.ref a1)])) rfl rfl (hb hby at_105)
  have A20 : Arr Z h20 a1 (own_cell c1 #[(.int (nar .char (own_dg i0 (0 : Int32)))), (.int (nar .char (own_dg i0 (1 : Int32)))), (.int (nar .char (own_dg i0 (2 : Int32)))), (.int (nar .char (own_dg i0 (3 : Int32)))), (.int (nar .char (i3 &&& (255 : Int32)).toUInt32.toUInt16.toUInt32.toInt32)), (.int (nar .char (own_dg i0 (5 : Int32)))), (.int (nar .char (own_dg i0 (6 : Int32)))), (.int (nar .char (own_dg i0 (7 : Int32)))), (.int (nar .char (own_dg i0 (8 : Int32)))), (.int (nar .char (own_dg i0 (9 : Int32)))), (.int 0), (.int 0), (.int 0), (.int 0), (.int 0), (.int 0), (.int 0), (.int 0), (.int 0), (.int 0), (.int 0), (.int 0), (.int 0), (.int 0), (.int 0), (.int 0), (.int 0), (.int 0), (.int 0), (.int 0), (.int 0), (.int 0), (.int 0), (.int 0), (.int 0), (.int 0), (.int 0), (.int 0), (.int 0), (.int 0), (.int 0), (.int 0), (.int 0), (.int 0)]) .char := A18.same W20
  have x20 : Ext h0 h20 := own_ext_wr x18 W20 j1
  have N20 := Fr.snoc X20 N19 (Nat.le_trans Z0 j1)
  refine own_go st20 ?_
  show own_G p e below _ T20 (mkF m 106 #[.val (.long i0), .second, .val (.long i1), .second, .val (.long i2), .second, .val (.int i3), .val (.ref a1), .unset, .unset, .unset, .unset] [])
  refine own_go (fun t k => XS.aload X20.here hx rfl (hb hby at_106) rfl rfl k) ?_
  show own_G p e below _ T20 (mkF m 108 #[.val (.long i0), .second, .val (.long i1), .second, .val (.long i2), .second, .val (.int i3), .val (.ref a1), .unset, .unset, .unset, .unset] [(.ref a1)])
  refine own_go (fun t k => XS.bipush X20.here hx rfl (hb hby at_108) k) ?_
  show own_G p e below _ T20 (mkF m 110 #[.val (.long i0), .second, .val (.long i1), .second, .val (.long i2), .second, .val (.int i3), .val (.ref a1), .unset, .unset, .unset, .unset] [(.int (10 : Int32)), (.ref a1)])
  refine own_go (fun t k => XT.lloadN X20.here hx rfl (hb hby at_110) rfl k) ?_
  show own_G p e below _ T20 (mkF m 111 #[.val (.long i0), .second, .val (.long i1), .second, .val (.long i2), .second, .val (.int i3), .val (.ref a1), .unset, .unset, .unset, .unset] [(.long i0), (.int (10 : Int32)), (.ref a1)])
  refine own_go (fun t k => XS.bipush X20.here hx rfl (hb hby at_111) k) ?_
  show own_G p e below _ T20 (mkF m 113 #[.val (.long i0), .second, .val (.long i1), .second, .val (.long i2), .second, .val (.int i3), .val (.ref a1), .unset, .unset, .unset, .unset] [(.int (10 : Int32)), (.long i0), (.int (10 : Int32)), (.ref a1)])
  obtain ⟨T21, L21, v21, X21, ⟨rfl, rfl, q21⟩, st21⟩ := own_callS X20 hx hZ (y := (⟨"com/example/compensa/compensa/CheckDigitsGeneralDigitPinLaw", "dg", "(JI)C"⟩ : MethodName)) hown (hw _ (List.mem_of_getElem? (i := 1) rfl)) (hw _ (List.mem_of_getElem? (i := 2) rfl)) (hw _ (List.mem_of_getElem? (i := 3) rfl)) (hw _ (List.mem_of_getElem? (i := 4) rfl)) (by decide) (c_dg l Z a0 hw i0 (10 : Int32) h20) e20 (argsL := [(.long i0), (.int (10 : Int32))]) (rest := [(.int (10 : Int32)), (.ref a1)]) (g := (mkF m 113 #[.val (.long i0), .second, .val (.long i1), .second, .val (.long i2), .second, .val (.int i3), .val (.ref a1), .unset, .unset, .unset, .unset] [(.int (10 : Int32)), (.long i0), (.int (10 : Int32)), (.ref a1)])) rfl (by rw [hml]; rfl) (ps := [.long, .int]) (r := (some .char)) (by decide +kernel) rfl rfl (W := 2) (by show 2 * 0 + _ ≤ _; exact Nat.le_of_eq rfl) (hb hby at_113) (by decide) (by decide) (by decide) (by decide)
  have N21 := Fr.app N20 (Fr.nil n0)
  refine own_go st21 ?_
  show own_G p e below _ T21 (mkF m 116 #[.val (.long i0), .second, .val (.long i1), .second, .val (.long i2), .second, .val (.int i3), .val (.ref a1), .unset, .unset, .unset, .unset] [(.int (own_dg i0 (10 : Int32))), (.int (10 : Int32)), (.ref a1)])
  obtain ⟨T22, h22, X22, e22, W22, st22⟩ := stC X21 hx hZ q21 A20 (j := (10 : Int32)) (own_in (n := 44) rfl (by decide)) (g := (mkF m 116 #[.val (.long i0), .second, .val (.long i1), .second, .val (.long i2), .second, .val (.int i3), .val (.ref a1), .unset, .unset, .unset, .unset] [(.int (own_dg i0 (10 : Int32))), (.int (10 : Int32)), (.ref a1)])) rfl rfl (hb hby at_116)
  have A22 : Arr Z h22 a1 (own_cell c1 #[(.int (nar .char (own_dg i0 (0 : Int32)))), (.int (nar .char (own_dg i0 (1 : Int32)))), (.int (nar .char (own_dg i0 (2 : Int32)))), (.int (nar .char (own_dg i0 (3 : Int32)))), (.int (nar .char (i3 &&& (255 : Int32)).toUInt32.toUInt16.toUInt32.toInt32)), (.int (nar .char (own_dg i0 (5 : Int32)))), (.int (nar .char (own_dg i0 (6 : Int32)))), (.int (nar .char (own_dg i0 (7 : Int32)))), (.int (nar .char (own_dg i0 (8 : Int32)))), (.int (nar .char (own_dg i0 (9 : Int32)))), (.int (nar .char (own_dg i0 (10 : Int32)))), (.int 0), (.int 0), (.int 0), (.int 0), (.int 0), (.int 0), (.int 0), (.int 0), (.int 0), (.int 0), (.int 0), (.int 0), (.int 0), (.int 0), (.int 0), (.int 0), (.int 0), (.int 0), (.int 0), (.int 0), (.int 0), (.int 0), (.int 0), (.int 0), (.int 0), (.int 0), (.int 0), (.int 0), (.int 0), (.int 0), (.int 0), (.int 0), (.int 0)]) .char := A20.same W22
  have x22 : Ext h0 h22 := own_ext_wr x20 W22 j1
  have N22 := Fr.snoc X22 N21 (Nat.le_trans Z0 j1)
  refine own_go st22 ?_
  show own_G p e below _ T22 (mkF m 117 #[.val (.long i0), .second, .val (.long i1), .second, .val (.long i2), .second, .val (.int i3), .val (.ref a1), .unset, .unset, .unset, .unset] [])
  refine own_go (fun t k => XS.aload X22.here hx rfl (hb hby at_117) rfl rfl k) ?_
  show own_G p e below _ T22 (mkF m 119 #[.val (.long i0), .second, .val (.long i1), .second, .val (.long i2), .second, .val (.int i3), .val (.ref a1), .unset, .unset, .unset, .unset] [(.ref a1)])
  refine own_go (fun t k => XS.bipush X22.here hx rfl (hb hby at_119) k) ?_
  show own_G p e below _ T22 (mkF m 121 #[.val (.long i0), .second, .val (.long i1), .second, .val (.long i2), .second, .val (.int i3), .val (.ref a1), .unset, .unset, .unset, .unset] [(.int (11 : Int32)), (.ref a1)])
  refine own_go (fun t k => XT.lloadN X22.here hx rfl (hb hby at_121) rfl k) ?_
  show own_G p e below _ T22 (mkF m 122 #[.val (.long i0), .second, .val (.long i1), .second, .val (.long i2), .second, .val (.int i3), .val (.ref a1), .unset, .unset, .unset, .unset] [(.long i0), (.int (11 : Int32)), (.ref a1)])
  refine own_go (fun t k => XS.bipush X22.here hx rfl (hb hby at_122) k) ?_
  show own_G p e below _ T22 (mkF m 124 #[.val (.long i0), .second, .val (.long i1), .second, .val (.long i2), .second, .val (.int i3), .val (.ref a1), .unset, .unset, .unset, .unset] [(.int (11 : Int32)), (.long i0), (.int (11 : Int32)), (.ref a1)])
  obtain ⟨T23, L23, v23, X23, ⟨rfl, rfl, q23⟩, st23⟩ := own_callS X22 hx hZ (y := (⟨"com/example/compensa/compensa/CheckDigitsGeneralDigitPinLaw", "dg", "(JI)C"⟩ : MethodName)) hown (hw _ (List.mem_of_getElem? (i := 1) rfl)) (hw _ (List.mem_of_getElem? (i := 2) rfl)) (hw _ (List.mem_of_getElem? (i := 3) rfl)) (hw _ (List.mem_of_getElem? (i := 4) rfl)) (by decide) (c_dg l Z a0 hw i0 (11 : Int32) h22) e22 (argsL := [(.long i0), (.int (11 : Int32))]) (rest := [(.int (11 : Int32)), (.ref a1)]) (g := (mkF m 124 #[.val (.long i0), .second, .val (.long i1), .second, .val (.long i2), .second, .val (.int i3), .val (.ref a1), .unset, .unset, .unset, .unset] [(.int (11 : Int32)), (.long i0), (.int (11 : Int32)), (.ref a1)])) rfl (by rw [hml]; rfl) (ps := [.long, .int]) (r := (some .char)) (by decide +kernel) rfl rfl (W := 2) (by show 2 * 0 + _ ≤ _; exact Nat.le_of_eq rfl) (hb hby at_124) (by decide) (by decide) (by decide) (by decide)
  have N23 := Fr.app N22 (Fr.nil n0)
  refine own_go st23 ?_
  show own_G p e below _ T23 (mkF m 127 #[.val (.long i0), .second, .val (.long i1), .second, .val (.long i2), .second, .val (.int i3), .val (.ref a1), .unset, .unset, .unset, .unset] [(.int (own_dg i0 (11 : Int32))), (.int (11 : Int32)), (.ref a1)])
  obtain ⟨T24, h24, X24, e24, W24, st24⟩ := stC X23 hx hZ q23 A22 (j := (11 : Int32)) (own_in (n := 44) rfl (by decide)) (g := (mkF m 127 #[.val (.long i0), .second, .val (.long i1), .second, .val (.long i2), .second, .val (.int i3), .val (.ref a1), .unset, .unset, .unset, .unset] [(.int (own_dg i0 (11 : Int32))), (.int (11 : Int32)), (.ref a1)])) rfl rfl (hb hby at_127)
  have A24 : Arr Z h24 a1 (own_cell c1 #[(.int (nar .char (own_dg i0 (0 : Int32)))), (.int (nar .char (own_dg i0 (1 : Int32)))), (.int (nar .char (own_dg i0 (2 : Int32)))), (.int (nar .char (own_dg i0 (3 : Int32)))), (.int (nar .char (i3 &&& (255 : Int32)).toUInt32.toUInt16.toUInt32.toInt32)), (.int (nar .char (own_dg i0 (5 : Int32)))), (.int (nar .char (own_dg i0 (6 : Int32)))), (.int (nar .char (own_dg i0 (7 : Int32)))), (.int (nar .char (own_dg i0 (8 : Int32)))), (.int (nar .char (own_dg i0 (9 : Int32)))), (.int (nar .char (own_dg i0 (10 : Int32)))), (.int (nar .char (own_dg i0 (11 : Int32)))), (.int 0), (.int 0), (.int 0), (.int 0), (.int 0), (.int 0), (.int 0), (.int 0), (.int 0), (.int 0), (.int 0), (.int 0), (.int 0), (.int 0), (.int 0), (.int 0), (.int 0), (.int 0), (.int 0), (.int 0), (.int 0), (.int 0), (.int 0), (.int 0), (.int 0), (.int 0), (.int 0), (.int 0), (.int 0), (.int 0), (.int 0), (.int 0)]) .char := A22.same W24
  have x24 : Ext h0 h24 := own_ext_wr x22 W24 j1
  have N24 := Fr.snoc X24 N23 (Nat.le_trans Z0 j1)
  refine own_go st24 ?_
  show own_G p e below _ T24 (mkF m 128 #[.val (.long i0), .second, .val (.long i1), .second, .val (.long i2), .second, .val (.int i3), .val (.ref a1), .unset, .unset, .unset, .unset] [])
  refine own_go (fun t k => XS.aload X24.here hx rfl (hb hby at_128) rfl rfl k) ?_
  show own_G p e below _ T24 (mkF m 130 #[.val (.long i0), .second, .val (.long i1), .second, .val (.long i2), .second, .val (.int i3), .val (.ref a1), .unset, .unset, .unset, .unset] [(.ref a1)])
  refine own_go (fun t k => XS.bipush X24.here hx rfl (hb hby at_130) k) ?_
  show own_G p e below _ T24 (mkF m 132 #[.val (.long i0), .second, .val (.long i1), .second, .val (.long i2), .second, .val (.int i3), .val (.ref a1), .unset, .unset, .unset, .unset] [(.int (12 : Int32)), (.ref a1)])
  refine own_go (fun t k => XT.lloadN X24.here hx rfl (hb hby at_132) rfl k) ?_
  show own_G p e below _ T24 (mkF m 133 #[.val (.long i0), .second, .val (.long i1), .second, .val (.long i2), .second, .val (.int i3), .val (.ref a1), .unset, .unset, .unset, .unset] [(.long i0), (.int (12 : Int32)), (.ref a1)])
  refine own_go (fun t k => XS.bipush X24.here hx rfl (hb hby at_133) k) ?_
  show own_G p e below _ T24 (mkF m 135 #[.val (.long i0), .second, .val (.long i1), .second, .val (.long i2), .second, .val (.int i3), .val (.ref a1), .unset, .unset, .unset, .unset] [(.int (12 : Int32)), (.long i0), (.int (12 : Int32)), (.ref a1)])
  obtain ⟨T25, L25, v25, X25, ⟨rfl, rfl, q25⟩, st25⟩ := own_callS X24 hx hZ (y := (⟨"com/example/compensa/compensa/CheckDigitsGeneralDigitPinLaw", "dg", "(JI)C"⟩ : MethodName)) hown (hw _ (List.mem_of_getElem? (i := 1) rfl)) (hw _ (List.mem_of_getElem? (i := 2) rfl)) (hw _ (List.mem_of_getElem? (i := 3) rfl)) (hw _ (List.mem_of_getElem? (i := 4) rfl)) (by decide) (c_dg l Z a0 hw i0 (12 : Int32) h24) e24 (argsL := [(.long i0), (.int (12 : Int32))]) (rest := [(.int (12 : Int32)), (.ref a1)]) (g := (mkF m 135 #[.val (.long i0), .second, .val (.long i1), .second, .val (.long i2), .second, .val (.int i3), .val (.ref a1), .unset, .unset, .unset, .unset] [(.int (12 : Int32)), (.long i0), (.int (12 : Int32)), (.ref a1)])) rfl (by rw [hml]; rfl) (ps := [.long, .int]) (r := (some .char)) (by decide +kernel) rfl rfl (W := 2) (by show 2 * 0 + _ ≤ _; exact Nat.le_of_eq rfl) (hb hby at_135) (by decide) (by decide) (by decide) (by decide)
  have N25 := Fr.app N24 (Fr.nil n0)
  refine own_go st25 ?_
  show own_G p e below _ T25 (mkF m 138 #[.val (.long i0), .second, .val (.long i1), .second, .val (.long i2), .second, .val (.int i3), .val (.ref a1), .unset, .unset, .unset, .unset] [(.int (own_dg i0 (12 : Int32))), (.int (12 : Int32)), (.ref a1)])
  obtain ⟨T26, h26, X26, e26, W26, st26⟩ := stC X25 hx hZ q25 A24 (j := (12 : Int32)) (own_in (n := 44) rfl (by decide)) (g := (mkF m 138 #[.val (.long i0), .second, .val (.long i1), .second, .val (.long i2), .second, .val (.int i3), .val (.ref a1), .unset, .unset, .unset, .unset] [(.int (own_dg i0 (12 : Int32))), (.int (12 : Int32)), (.ref a1)])) rfl rfl (hb hby at_138)
  have A26 : Arr Z h26 a1 (own_cell c1 #[(.int (nar .char (own_dg i0 (0 : Int32)))), (.int (nar .char (own_dg i0 (1 : Int32)))), (.int (nar .char (own_dg i0 (2 : Int32)))), (.int (nar .char (own_dg i0 (3 : Int32)))), (.int (nar .char (i3 &&& (255 : Int32)).toUInt32.toUInt16.toUInt32.toInt32)), (.int (nar .char (own_dg i0 (5 : Int32)))), (.int (nar .char (own_dg i0 (6 : Int32)))), (.int (nar .char (own_dg i0 (7 : Int32)))), (.int (nar .char (own_dg i0 (8 : Int32)))), (.int (nar .char (own_dg i0 (9 : Int32)))), (.int (nar .char (own_dg i0 (10 : Int32)))), (.int (nar .char (own_dg i0 (11 : Int32)))), (.int (nar .char (own_dg i0 (12 : Int32)))), (.int 0), (.int 0), (.int 0), (.int 0), (.int 0), (.int 0), (.int 0), (.int 0), (.int 0), (.int 0), (.int 0), (.int 0), (.int 0), (.int 0), (.int 0), (.int 0), (.int 0), (.int 0), (.int 0), (.int 0), (.int 0), (.int 0), (.int 0), (.int 0), (.int 0), (.int 0), (.int 0), (.int 0), (.int 0), (.int 0), (.int 0)]) .char := A24.same W26
  have x26 : Ext h0 h26 := own_ext_wr x24 W26 j1
  have N26 := Fr.snoc X26 N25 (Nat.le_trans Z0 j1)
  refine own_go st26 ?_
  show own_G p e below _ T26 (mkF m 139 #[.val (.long i0), .second, .val (.long i1), .second, .val (.long i2), .second, .val (.int i3), .val (.ref a1), .unset, .unset, .unset, .unset] [])
  refine own_go (fun t k => XS.aload X26.here hx rfl (hb hby at_139) rfl rfl k) ?_
  show own_G p e below _ T26 (mkF m 141 #[.val (.long i0), .second, .val (.long i1), .second, .val (.long i2), .second, .val (.int i3), .val (.ref a1), .unset, .unset, .unset, .unset] [(.ref a1)])
  refine own_go (fun t k => XS.bipush X26.here hx rfl (hb hby at_141) k) ?_
  show own_G p e below _ T26 (mkF m 143 #[.val (.long i0), .second, .val (.long i1), .second, .val (.long i2), .second, .val (.int i3), .val (.ref a1), .unset, .unset, .unset, .unset] [(.int (13 : Int32)), (.ref a1)])
  refine own_go (fun t k => XT.lloadN X26.here hx rfl (hb hby at_143) rfl k) ?_
  show own_G p e below _ T26 (mkF m 144 #[.val (.long i0), .second, .val (.long i1), .second, .val (.long i2), .second, .val (.int i3), .val (.ref a1), .unset, .unset, .unset, .unset] [(.long i0), (.int (13 : Int32)), (.ref a1)])
  refine own_go (fun t k => XS.bipush X26.here hx rfl (hb hby at_144) k) ?_
  show own_G p e below _ T26 (mkF m 146 #[.val (.long i0), .second, .val (.long i1), .second, .val (.long i2), .second, .val (.int i3), .val (.ref a1), .unset, .unset, .unset, .unset] [(.int (13 : Int32)), (.long i0), (.int (13 : Int32)), (.ref a1)])
  obtain ⟨T27, L27, v27, X27, ⟨rfl, rfl, q27⟩, st27⟩ := own_callS X26 hx hZ (y := (⟨"com/example/compensa/compensa/CheckDigitsGeneralDigitPinLaw", "dg", "(JI)C"⟩ : MethodName)) hown (hw _ (List.mem_of_getElem? (i := 1) rfl)) (hw _ (List.mem_of_getElem? (i := 2) rfl)) (hw _ (List.mem_of_getElem? (i := 3) rfl)) (hw _ (List.mem_of_getElem? (i := 4) rfl)) (by decide) (c_dg l Z a0 hw i0 (13 : Int32) h26) e26 (argsL := [(.long i0), (.int (13 : Int32))]) (rest := [(.int (13 : Int32)), (.ref a1)]) (g := (mkF m 146 #[.val (.long i0), .second, .val (.long i1), .second, .val (.long i2), .second, .val (.int i3), .val (.ref a1), .unset, .unset, .unset, .unset] [(.int (13 : Int32)), (.long i0), (.int (13 : Int32)), (.ref a1)])) rfl (by rw [hml]; rfl) (ps := [.long, .int]) (r := (some .char)) (by decide +kernel) rfl rfl (W := 2) (by show 2 * 0 + _ ≤ _; exact Nat.le_of_eq rfl) (hb hby at_146) (by decide) (by decide) (by decide) (by decide)
  have N27 := Fr.app N26 (Fr.nil n0)
  refine own_go st27 ?_
  show own_G p e below _ T27 (mkF m 149 #[.val (.long i0), .second, .val (.long i1), .second, .val (.long i2), .second, .val (.int i3), .val (.ref a1), .unset, .unset, .unset, .unset] [(.int (own_dg i0 (13 : Int32))), (.int (13 : Int32)), (.ref a1)])
  obtain ⟨T28, h28, X28, e28, W28, st28⟩ := stC X27 hx hZ q27 A26 (j := (13 : Int32)) (own_in (n := 44) rfl (by decide)) (g := (mkF m 149 #[.val (.long i0), .second, .val (.long i1), .second, .val (.long i2), .second, .val (.int i3), .val (.ref a1), .unset, .unset, .unset, .unset] [(.int (own_dg i0 (13 : Int32))), (.int (13 : Int32)), (.ref a1)])) rfl rfl (hb hby at_149)
  have A28 : Arr Z h28 a1 (own_cell c1 #[(.int (nar .char (own_dg i0 (0 : Int32)))), (.int (nar .char (own_dg i0 (1 : Int32)))), (.int (nar .char (own_dg i0 (2 : Int32)))), (.int (nar .char (own_dg i0 (3 : Int32)))), (.int (nar .char (i3 &&& (255 : Int32)).toUInt32.toUInt16.toUInt32.toInt32)), (.int (nar .char (own_dg i0 (5 : Int32)))), (.int (nar .char (own_dg i0 (6 : Int32)))), (.int (nar .char (own_dg i0 (7 : Int32)))), (.int (nar .char (own_dg i0 (8 : Int32)))), (.int (nar .char (own_dg i0 (9 : Int32)))), (.int (nar .char (own_dg i0 (10 : Int32)))), (.int (nar .char (own_dg i0 (11 : Int32)))), (.int (nar .char (own_dg i0 (12 : Int32)))), (.int (nar .char (own_dg i0 (13 : Int32)))), (.int 0), (.int 0), (.int 0), (.int 0), (.int 0), (.int 0), (.int 0), (.int 0), (.int 0), (.int 0), (.int 0), (.int 0), (.int 0), (.int 0), (.int 0), (.int 0), (.int 0), (.int 0), (.int 0), (.int 0), (.int 0), (.int 0), (.int 0), (.int 0), (.int 0), (.int 0), (.int 0), (.int 0), (.int 0), (.int 0)]) .char := A26.same W28
  have x28 : Ext h0 h28 := own_ext_wr x26 W28 j1
  have N28 := Fr.snoc X28 N27 (Nat.le_trans Z0 j1)
  refine own_go st28 ?_
  show own_G p e below _ T28 (mkF m 150 #[.val (.long i0), .second, .val (.long i1), .second, .val (.long i2), .second, .val (.int i3), .val (.ref a1), .unset, .unset, .unset, .unset] [])
  refine own_go (fun t k => XS.aload X28.here hx rfl (hb hby at_150) rfl rfl k) ?_
  show own_G p e below _ T28 (mkF m 152 #[.val (.long i0), .second, .val (.long i1), .second, .val (.long i2), .second, .val (.int i3), .val (.ref a1), .unset, .unset, .unset, .unset] [(.ref a1)])
  refine own_go (fun t k => XS.bipush X28.here hx rfl (hb hby at_152) k) ?_
  show own_G p e below _ T28 (mkF m 154 #[.val (.long i0), .second, .val (.long i1), .second, .val (.long i2), .second, .val (.int i3), .val (.ref a1), .unset, .unset, .unset, .unset] [(.int (14 : Int32)), (.ref a1)])
  refine own_go (fun t k => XT.lloadN X28.here hx rfl (hb hby at_154) rfl k) ?_
  show own_G p e below _ T28 (mkF m 155 #[.val (.long i0), .second, .val (.long i1), .second, .val (.long i2), .second, .val (.int i3), .val (.ref a1), .unset, .unset, .unset, .unset] [(.long i0), (.int (14 : Int32)), (.ref a1)])
  refine own_go (fun t k => XS.bipush X28.here hx rfl (hb hby at_155) k) ?_
  show own_G p e below _ T28 (mkF m 157 #[.val (.long i0), .second, .val (.long i1), .second, .val (.long i2), .second, .val (.int i3), .val (.ref a1), .unset, .unset, .unset, .unset] [(.int (14 : Int32)), (.long i0), (.int (14 : Int32)), (.ref a1)])
  obtain ⟨T29, L29, v29, X29, ⟨rfl, rfl, q29⟩, st29⟩ := own_callS X28 hx hZ (y := (⟨"com/example/compensa/compensa/CheckDigitsGeneralDigitPinLaw", "dg", "(JI)C"⟩ : MethodName)) hown (hw _ (List.mem_of_getElem? (i := 1) rfl)) (hw _ (List.mem_of_getElem? (i := 2) rfl)) (hw _ (List.mem_of_getElem? (i := 3) rfl)) (hw _ (List.mem_of_getElem? (i := 4) rfl)) (by decide) (c_dg l Z a0 hw i0 (14 : Int32) h28) e28 (argsL := [(.long i0), (.int (14 : Int32))]) (rest := [(.int (14 : Int32)), (.ref a1)]) (g := (mkF m 157 #[.val (.long i0), .second, .val (.long i1), .second, .val (.long i2), .second, .val (.int i3), .val (.ref a1), .unset, .unset, .unset, .unset] [(.int (14 : Int32)), (.long i0), (.int (14 : Int32)), (.ref a1)])) rfl (by rw [hml]; rfl) (ps := [.long, .int]) (r := (some .char)) (by decide +kernel) rfl rfl (W := 2) (by show 2 * 0 + _ ≤ _; exact Nat.le_of_eq rfl) (hb hby at_157) (by decide) (by decide) (by decide) (by decide)
  have N29 := Fr.app N28 (Fr.nil n0)
  refine own_go st29 ?_
  show own_G p e below _ T29 (mkF m 160 #[.val (.long i0), .second, .val (.long i1), .second, .val (.long i2), .second, .val (.int i3), .val (.ref a1), .unset, .unset, .unset, .unset] [(.int (own_dg i0 (14 : Int32))), (.int (14 : Int32)), (.ref a1)])
  obtain ⟨T30, h30, X30, e30, W30, st30⟩ := stC X29 hx hZ q29 A28 (j := (14 : Int32)) (own_in (n := 44) rfl (by decide)) (g := (mkF m 160 #[.val (.long i0), .second, .val (.long i1), .second, .val (.long i2), .second, .val (.int i3), .val (.ref a1), .unset, .unset, .unset, .unset] [(.int (own_dg i0 (14 : Int32))), (.int (14 : Int32)), (.ref a1)])) rfl rfl (hb hby at_160)
  have A30 : Arr Z h30 a1 (own_cell c1 #[(.int (nar .char (own_dg i0 (0 : Int32)))), (.int (nar .char (own_dg i0 (1 : Int32)))), (.int (nar .char (own_dg i0 (2 : Int32)))), (.int (nar .char (own_dg i0 (3 : Int32)))), (.int (nar .char (i3 &&& (255 : Int32)).toUInt32.toUInt16.toUInt32.toInt32)), (.int (nar .char (own_dg i0 (5 : Int32)))), (.int (nar .char (own_dg i0 (6 : Int32)))), (.int (nar .char (own_dg i0 (7 : Int32)))), (.int (nar .char (own_dg i0 (8 : Int32)))), (.int (nar .char (own_dg i0 (9 : Int32)))), (.int (nar .char (own_dg i0 (10 : Int32)))), (.int (nar .char (own_dg i0 (11 : Int32)))), (.int (nar .char (own_dg i0 (12 : Int32)))), (.int (nar .char (own_dg i0 (13 : Int32)))), (.int (nar .char (own_dg i0 (14 : Int32)))), (.int 0), (.int 0), (.int 0), (.int 0), (.int 0), (.int 0), (.int 0), (.int 0), (.int 0), (.int 0), (.int 0), (.int 0), (.int 0), (.int 0), (.int 0), (.int 0), (.int 0), (.int 0), (.int 0), (.int 0), (.int 0), (.int 0), (.int 0), (.int 0), (.int 0), (.int 0), (.int 0), (.int 0), (.int 0)]) .char := A28.same W30
  have x30 : Ext h0 h30 := own_ext_wr x28 W30 j1
  have N30 := Fr.snoc X30 N29 (Nat.le_trans Z0 j1)
  refine own_go st30 ?_
  show own_G p e below _ T30 (mkF m 161 #[.val (.long i0), .second, .val (.long i1), .second, .val (.long i2), .second, .val (.int i3), .val (.ref a1), .unset, .unset, .unset, .unset] [])
  refine own_go (fun t k => XS.aload X30.here hx rfl (hb hby at_161) rfl rfl k) ?_
  show own_G p e below _ T30 (mkF m 163 #[.val (.long i0), .second, .val (.long i1), .second, .val (.long i2), .second, .val (.int i3), .val (.ref a1), .unset, .unset, .unset, .unset] [(.ref a1)])
  refine own_go (fun t k => XS.bipush X30.here hx rfl (hb hby at_163) k) ?_
  show own_G p e below _ T30 (mkF m 165 #[.val (.long i0), .second, .val (.long i1), .second, .val (.long i2), .second, .val (.int i3), .val (.ref a1), .unset, .unset, .unset, .unset] [(.int (15 : Int32)), (.ref a1)])
  refine own_go (fun t k => XT.lloadN X30.here hx rfl (hb hby at_165) rfl k) ?_
  show own_G p e below _ T30 (mkF m 166 #[.val (.long i0), .second, .val (.long i1), .second, .val (.long i2), .second, .val (.int i3), .val (.ref a1), .unset, .unset, .unset, .unset] [(.long i0), (.int (15 : Int32)), (.ref a1)])
  refine own_go (fun t k => XS.bipush X30.here hx rfl (hb hby at_166) k) ?_
  show own_G p e below _ T30 (mkF m 168 #[.val (.long i0), .second, .val (.long i1), .second, .val (.long i2), .second, .val (.int i3), .val (.ref a1), .unset, .unset, .unset, .unset] [(.int (15 : Int32)), (.long i0), (.int (15 : Int32)), (.ref a1)])
  obtain ⟨T31, L31, v31, X31, ⟨rfl, rfl, q31⟩, st31⟩ := own_callS X30 hx hZ (y := (⟨"com/example/compensa/compensa/CheckDigitsGeneralDigitPinLaw", "dg", "(JI)C"⟩ : MethodName)) hown (hw _ (List.mem_of_getElem? (i := 1) rfl)) (hw _ (List.mem_of_getElem? (i := 2) rfl)) (hw _ (List.mem_of_getElem? (i := 3) rfl)) (hw _ (List.mem_of_getElem? (i := 4) rfl)) (by decide) (c_dg l Z a0 hw i0 (15 : Int32) h30) e30 (argsL := [(.long i0), (.int (15 : Int32))]) (rest := [(.int (15 : Int32)), (.ref a1)]) (g := (mkF m 168 #[.val (.long i0), .second, .val (.long i1), .second, .val (.long i2), .second, .val (.int i3), .val (.ref a1), .unset, .unset, .unset, .unset] [(.int (15 : Int32)), (.long i0), (.int (15 : Int32)), (.ref a1)])) rfl (by rw [hml]; rfl) (ps := [.long, .int]) (r := (some .char)) (by decide +kernel) rfl rfl (W := 2) (by show 2 * 0 + _ ≤ _; exact Nat.le_of_eq rfl) (hb hby at_168) (by decide) (by decide) (by decide) (by decide)
  have N31 := Fr.app N30 (Fr.nil n0)
  refine own_go st31 ?_
  show own_G p e below _ T31 (mkF m 171 #[.val (.long i0), .second, .val (.long i1), .second, .val (.long i2), .second, .val (.int i3), .val (.ref a1), .unset, .unset, .unset, .unset] [(.int (own_dg i0 (15 : Int32))), (.int (15 : Int32)), (.ref a1)])
  obtain ⟨T32, h32, X32, e32, W32, st32⟩ := stC X31 hx hZ q31 A30 (j := (15 : Int32)) (own_in (n := 44) rfl (by decide)) (g := (mkF m 171 #[.val (.long i0), .second, .val (.long i1), .second, .val (.long i2), .second, .val (.int i3), .val (.ref a1), .unset, .unset, .unset, .unset] [(.int (own_dg i0 (15 : Int32))), (.int (15 : Int32)), (.ref a1)])) rfl rfl (hb hby at_171)
  have A32 : Arr Z h32 a1 (own_cell c1 #[(.int (nar .char (own_dg i0 (0 : Int32)))), (.int (nar .char (own_dg i0 (1 : Int32)))), (.int (nar .char (own_dg i0 (2 : Int32)))), (.int (nar .char (own_dg i0 (3 : Int32)))), (.int (nar .char (i3 &&& (255 : Int32)).toUInt32.toUInt16.toUInt32.toInt32)), (.int (nar .char (own_dg i0 (5 : Int32)))), (.int (nar .char (own_dg i0 (6 : Int32)))), (.int (nar .char (own_dg i0 (7 : Int32)))), (.int (nar .char (own_dg i0 (8 : Int32)))), (.int (nar .char (own_dg i0 (9 : Int32)))), (.int (nar .char (own_dg i0 (10 : Int32)))), (.int (nar .char (own_dg i0 (11 : Int32)))), (.int (nar .char (own_dg i0 (12 : Int32)))), (.int (nar .char (own_dg i0 (13 : Int32)))), (.int (nar .char (own_dg i0 (14 : Int32)))), (.int (nar .char (own_dg i0 (15 : Int32)))), (.int 0), (.int 0), (.int 0), (.int 0), (.int 0), (.int 0), (.int 0), (.int 0), (.int 0), (.int 0), (.int 0), (.int 0), (.int 0), (.int 0), (.int 0), (.int 0), (.int 0), (.int 0), (.int 0), (.int 0), (.int 0), (.int 0), (.int 0), (.int 0), (.int 0), (.int 0), (.int 0), (.int 0)]) .char := A30.same W32
  have x32 : Ext h0 h32 := own_ext_wr x30 W32 j1
  have N32 := Fr.snoc X32 N31 (Nat.le_trans Z0 j1)
  refine own_go st32 ?_
  show own_G p e below _ T32 (mkF m 172 #[.val (.long i0), .second, .val (.long i1), .second, .val (.long i2), .second, .val (.int i3), .val (.ref a1), .unset, .unset, .unset, .unset] [])
  refine own_go (fun t k => XS.aload X32.here hx rfl (hb hby at_172) rfl rfl k) ?_
  show own_G p e below _ T32 (mkF m 174 #[.val (.long i0), .second, .val (.long i1), .second, .val (.long i2), .second, .val (.int i3), .val (.ref a1), .unset, .unset, .unset, .unset] [(.ref a1)])
  refine own_go (fun t k => XS.bipush X32.here hx rfl (hb hby at_174) k) ?_
  show own_G p e below _ T32 (mkF m 176 #[.val (.long i0), .second, .val (.long i1), .second, .val (.long i2), .second, .val (.int i3), .val (.ref a1), .unset, .unset, .unset, .unset] [(.int (16 : Int32)), (.ref a1)])
  refine own_go (fun t k => XT.lloadN X32.here hx rfl (hb hby at_176) rfl k) ?_
  show own_G p e below _ T32 (mkF m 177 #[.val (.long i0), .second, .val (.long i1), .second, .val (.long i2), .second, .val (.int i3), .val (.ref a1), .unset, .unset, .unset, .unset] [(.long i1), (.int (16 : Int32)), (.ref a1)])
  refine own_go (fun t k => XS.iconst X32.here hx rfl (hb hby at_177) k) ?_
  show own_G p e below _ T32 (mkF m 178 #[.val (.long i0), .second, .val (.long i1), .second, .val (.long i2), .second, .val (.int i3), .val (.ref a1), .unset, .unset, .unset, .unset] [(.int (0 : Int32)), (.long i1), (.int (16 : Int32)), (.ref a1)])
  obtain ⟨T33, L33, v33, X33, ⟨rfl, rfl, q33⟩, st33⟩ := own_callS X32 hx hZ (y := (⟨"com/example/compensa/compensa/CheckDigitsGeneralDigitPinLaw", "dg", "(JI)C"⟩ : MethodName)) hown (hw _ (List.mem_of_getElem? (i := 1) rfl)) (hw _ (List.mem_of_getElem? (i := 2) rfl)) (hw _ (List.mem_of_getElem? (i := 3) rfl)) (hw _ (List.mem_of_getElem? (i := 4) rfl)) (by decide) (c_dg l Z a0 hw i1 (0 : Int32) h32) e32 (argsL := [(.long i1), (.int (0 : Int32))]) (rest := [(.int (16 : Int32)), (.ref a1)]) (g := (mkF m 178 #[.val (.long i0), .second, .val (.long i1), .second, .val (.long i2), .second, .val (.int i3), .val (.ref a1), .unset, .unset, .unset, .unset] [(.int (0 : Int32)), (.long i1), (.int (16 : Int32)), (.ref a1)])) rfl (by rw [hml]; rfl) (ps := [.long, .int]) (r := (some .char)) (by decide +kernel) rfl rfl (W := 2) (by show 2 * 0 + _ ≤ _; exact Nat.le_of_eq rfl) (hb hby at_178) (by decide) (by decide) (by decide) (by decide)
  have N33 := Fr.app N32 (Fr.nil n0)
  refine own_go st33 ?_
  show own_G p e below _ T33 (mkF m 181 #[.val (.long i0), .second, .val (.long i1), .second, .val (.long i2), .second, .val (.int i3), .val (.ref a1), .unset, .unset, .unset, .unset] [(.int (own_dg i1 (0 : Int32))), (.int (16 : Int32)), (.ref a1)])
  obtain ⟨T34, h34, X34, e34, W34, st34⟩ := stC X33 hx hZ q33 A32 (j := (16 : Int32)) (own_in (n := 44) rfl (by decide)) (g := (mkF m 181 #[.val (.long i0), .second, .val (.long i1), .second, .val (.long i2), .second, .val (.int i3), .val (.ref a1), .unset, .unset, .unset, .unset] [(.int (own_dg i1 (0 : Int32))), (.int (16 : Int32)), (.ref a1)])) rfl rfl (hb hby at_181)
  have A34 : Arr Z h34 a1 (own_cell c1 #[(.int (nar .char (own_dg i0 (0 : Int32)))), (.int (nar .char (own_dg i0 (1 : Int32)))), (.int (nar .char (own_dg i0 (2 : Int32)))), (.int (nar .char (own_dg i0 (3 : Int32)))), (.int (nar .char (i3 &&& (255 : Int32)).toUInt32.toUInt16.toUInt32.toInt32)), (.int (nar .char (own_dg i0 (5 : Int32)))), (.int (nar .char (own_dg i0 (6 : Int32)))), (.int (nar .char (own_dg i0 (7 : Int32)))), (.int (nar .char (own_dg i0 (8 : Int32)))), (.int (nar .char (own_dg i0 (9 : Int32)))), (.int (nar .char (own_dg i0 (10 : Int32)))), (.int (nar .char (own_dg i0 (11 : Int32)))), (.int (nar .char (own_dg i0 (12 : Int32)))), (.int (nar .char (own_dg i0 (13 : Int32)))), (.int (nar .char (own_dg i0 (14 : Int32)))), (.int (nar .char (own_dg i0 (15 : Int32)))), (.int (nar .char (own_dg i1 (0 : Int32)))), (.int 0), (.int 0), (.int 0), (.int 0), (.int 0), (.int 0), (.int 0), (.int 0), (.int 0), (.int 0), (.int 0), (.int 0), (.int 0), (.int 0), (.int 0), (.int 0), (.int 0), (.int 0), (.int 0), (.int 0), (.int 0), (.int 0), (.int 0), (.int 0), (.int 0), (.int 0), (.int 0)]) .char := A32.same W34
  have x34 : Ext h0 h34 := own_ext_wr x32 W34 j1
  have N34 := Fr.snoc X34 N33 (Nat.le_trans Z0 j1)
  refine own_go st34 ?_
  show own_G p e below _ T34 (mkF m 182 #[.val (.long i0), .second, .val (.long i1), .second, .val (.long i2), .second, .val (.int i3), .val (.ref a1), .unset, .unset, .unset, .unset] [])
  refine own_go (fun t k => XS.aload X34.here hx rfl (hb hby at_182) rfl rfl k) ?_
  show own_G p e below _ T34 (mkF m 184 #[.val (.long i0), .second, .val (.long i1), .second, .val (.long i2), .second, .val (.int i3), .val (.ref a1), .unset, .unset, .unset, .unset] [(.ref a1)])
  refine own_go (fun t k => XS.bipush X34.here hx rfl (hb hby at_184) k) ?_
  show own_G p e below _ T34 (mkF m 186 #[.val (.long i0), .second, .val (.long i1), .second, .val (.long i2), .second, .val (.int i3), .val (.ref a1), .unset, .unset, .unset, .unset] [(.int (17 : Int32)), (.ref a1)])
  refine own_go (fun t k => XT.lloadN X34.here hx rfl (hb hby at_186) rfl k) ?_
  show own_G p e below _ T34 (mkF m 187 #[.val (.long i0), .second, .val (.long i1), .second, .val (.long i2), .second, .val (.int i3), .val (.ref a1), .unset, .unset, .unset, .unset] [(.long i1), (.int (17 : Int32)), (.ref a1)])
  refine own_go (fun t k => XS.iconst X34.here hx rfl (hb hby at_187) k) ?_
  show own_G p e below _ T34 (mkF m 188 #[.val (.long i0), .second, .val (.long i1), .second, .val (.long i2), .second, .val (.int i3), .val (.ref a1), .unset, .unset, .unset, .unset] [(.int (1 : Int32)), (.long i1), (.int (17 : Int32)), (.ref a1)])
  obtain ⟨T35, L35, v35, X35, ⟨rfl, rfl, q35⟩, st35⟩ := own_callS X34 hx hZ (y := (⟨"com/example/compensa/compensa/CheckDigitsGeneralDigitPinLaw", "dg", "(JI)C"⟩ : MethodName)) hown (hw _ (List.mem_of_getElem? (i := 1) rfl)) (hw _ (List.mem_of_getElem? (i := 2) rfl)) (hw _ (List.mem_of_getElem? (i := 3) rfl)) (hw _ (List.mem_of_getElem? (i := 4) rfl)) (by decide) (c_dg l Z a0 hw i1 (1 : Int32) h34) e34 (argsL := [(.long i1), (.int (1 : Int32))]) (rest := [(.int (17 : Int32)), (.ref a1)]) (g := (mkF m 188 #[.val (.long i0), .second, .val (.long i1), .second, .val (.long i2), .second, .val (.int i3), .val (.ref a1), .unset, .unset, .unset, .unset] [(.int (1 : Int32)), (.long i1), (.int (17 : Int32)), (.ref a1)])) rfl (by rw [hml]; rfl) (ps := [.long, .int]) (r := (some .char)) (by decide +kernel) rfl rfl (W := 2) (by show 2 * 0 + _ ≤ _; exact Nat.le_of_eq rfl) (hb hby at_188) (by decide) (by decide) (by decide) (by decide)
  have N35 := Fr.app N34 (Fr.nil n0)
  refine own_go st35 ?_
  show own_G p e below _ T35 (mkF m 191 #[.val (.long i0), .second, .val (.long i1), .second, .val (.long i2), .second, .val (.int i3), .val (.ref a1), .unset, .unset, .unset, .unset] [(.int (own_dg i1 (1 : Int32))), (.int (17 : Int32)), (.ref a1)])
  obtain ⟨T36, h36, X36, e36, W36, st36⟩ := stC X35 hx hZ q35 A34 (j := (17 : Int32)) (own_in (n := 44) rfl (by decide)) (g := (mkF m 191 #[.val (.long i0), .second, .val (.long i1), .second, .val (.long i2), .second, .val (.int i3), .val (.ref a1), .unset, .unset, .unset, .unset] [(.int (own_dg i1 (1 : Int32))), (.int (17 : Int32)), (.ref a1)])) rfl rfl (hb hby at_191)
  have A36 : Arr Z h36 a1 (own_cell c1 #[(.int (nar .char (own_dg i0 (0 : Int32)))), (.int (nar .char (own_dg i0 (1 : Int32)))), (.int (nar .char (own_dg i0 (2 : Int32)))), (.int (nar .char (own_dg i0 (3 : Int32)))), (.int (nar .char (i3 &&& (255 : Int32)).toUInt32.toUInt16.toUInt32.toInt32)), (.int (nar .char (own_dg i0 (5 : Int32)))), (.int (nar .char (own_dg i0 (6 : Int32)))), (.int (nar .char (own_dg i0 (7 : Int32)))), (.int (nar .char (own_dg i0 (8 : Int32)))), (.int (nar .char (own_dg i0 (9 : Int32)))), (.int (nar .char (own_dg i0 (10 : Int32)))), (.int (nar .char (own_dg i0 (11 : Int32)))), (.int (nar .char (own_dg i0 (12 : Int32)))), (.int (nar .char (own_dg i0 (13 : Int32)))), (.int (nar .char (own_dg i0 (14 : Int32)))), (.int (nar .char (own_dg i0 (15 : Int32)))), (.int (nar .char (own_dg i1 (0 : Int32)))), (.int (nar .char (own_dg i1 (1 : Int32)))), (.int 0), (.int 0), (.int 0), (.int 0), (.int 0), (.int 0), (.int 0), (.int 0), (.int 0), (.int 0), (.int 0), (.int 0), (.int 0), (.int 0), (.int 0), (.int 0), (.int 0), (.int 0), (.int 0), (.int 0), (.int 0), (.int 0), (.int 0), (.int 0), (.int 0), (.int 0)]) .char := A34.same W36
  have x36 : Ext h0 h36 := own_ext_wr x34 W36 j1
  have N36 := Fr.snoc X36 N35 (Nat.le_trans Z0 j1)
  refine own_go st36 ?_
  show own_G p e below _ T36 (mkF m 192 #[.val (.long i0), .second, .val (.long i1), .second, .val (.long i2), .second, .val (.int i3), .val (.ref a1), .unset, .unset, .unset, .unset] [])
  refine own_go (fun t k => XS.aload X36.here hx rfl (hb hby at_192) rfl rfl k) ?_
  show own_G p e below _ T36 (mkF m 194 #[.val (.long i0), .second, .val (.long i1), .second, .val (.long i2), .second, .val (.int i3), .val (.ref a1), .unset, .unset, .unset, .unset] [(.ref a1)])
  refine own_go (fun t k => XS.bipush X36.here hx rfl (hb hby at_194) k) ?_
  show own_G p e below _ T36 (mkF m 196 #[.val (.long i0), .second, .val (.long i1), .second, .val (.long i2), .second, .val (.int i3), .val (.ref a1), .unset, .unset, .unset, .unset] [(.int (18 : Int32)), (.ref a1)])
  refine own_go (fun t k => XT.lloadN X36.here hx rfl (hb hby at_196) rfl k) ?_
  show own_G p e below _ T36 (mkF m 197 #[.val (.long i0), .second, .val (.long i1), .second, .val (.long i2), .second, .val (.int i3), .val (.ref a1), .unset, .unset, .unset, .unset] [(.long i1), (.int (18 : Int32)), (.ref a1)])
  refine own_go (fun t k => XS.iconst X36.here hx rfl (hb hby at_197) k) ?_
  show own_G p e below _ T36 (mkF m 198 #[.val (.long i0), .second, .val (.long i1), .second, .val (.long i2), .second, .val (.int i3), .val (.ref a1), .unset, .unset, .unset, .unset] [(.int (2 : Int32)), (.long i1), (.int (18 : Int32)), (.ref a1)])
  obtain ⟨T37, L37, v37, X37, ⟨rfl, rfl, q37⟩, st37⟩ := own_callS X36 hx hZ (y := (⟨"com/example/compensa/compensa/CheckDigitsGeneralDigitPinLaw", "dg", "(JI)C"⟩ : MethodName)) hown (hw _ (List.mem_of_getElem? (i := 1) rfl)) (hw _ (List.mem_of_getElem? (i := 2) rfl)) (hw _ (List.mem_of_getElem? (i := 3) rfl)) (hw _ (List.mem_of_getElem? (i := 4) rfl)) (by decide) (c_dg l Z a0 hw i1 (2 : Int32) h36) e36 (argsL := [(.long i1), (.int (2 : Int32))]) (rest := [(.int (18 : Int32)), (.ref a1)]) (g := (mkF m 198 #[.val (.long i0), .second, .val (.long i1), .second, .val (.long i2), .second, .val (.int i3), .val (.ref a1), .unset, .unset, .unset, .unset] [(.int (2 : Int32)), (.long i1), (.int (18 : Int32)), (.ref a1)])) rfl (by rw [hml]; rfl) (ps := [.long, .int]) (r := (some .char)) (by decide +kernel) rfl rfl (W := 2) (by show 2 * 0 + _ ≤ _; exact Nat.le_of_eq rfl) (hb hby at_198) (by decide) (by decide) (by decide) (by decide)
  have N37 := Fr.app N36 (Fr.nil n0)
  refine own_go st37 ?_
  show own_G p e below _ T37 (mkF m 201 #[.val (.long i0), .second, .val (.long i1), .second, .val (.long i2), .second, .val (.int i3), .val (.ref a1), .unset, .unset, .unset, .unset] [(.int (own_dg i1 (2 : Int32))), (.int (18 : Int32)), (.ref a1)])
  obtain ⟨T38, h38, X38, e38, W38, st38⟩ := stC X37 hx hZ q37 A36 (j := (18 : Int32)) (own_in (n := 44) rfl (by decide)) (g := (mkF m 201 #[.val (.long i0), .second, .val (.long i1), .second, .val (.long i2), .second, .val (.int i3), .val (.ref a1), .unset, .unset, .unset, .unset] [(.int (own_dg i1 (2 : Int32))), (.int (18 : Int32)), (.ref a1)])) rfl rfl (hb hby at_201)
  have A38 : Arr Z h38 a1 (own_cell c1 #[(.int (nar .char (own_dg i0 (0 : Int32)))), (.int (nar .char (own_dg i0 (1 : Int32)))), (.int (nar .char (own_dg i0 (2 : Int32)))), (.int (nar .char (own_dg i0 (3 : Int32)))), (.int (nar .char (i3 &&& (255 : Int32)).toUInt32.toUInt16.toUInt32.toInt32)), (.int (nar .char (own_dg i0 (5 : Int32)))), (.int (nar .char (own_dg i0 (6 : Int32)))), (.int (nar .char (own_dg i0 (7 : Int32)))), (.int (nar .char (own_dg i0 (8 : Int32)))), (.int (nar .char (own_dg i0 (9 : Int32)))), (.int (nar .char (own_dg i0 (10 : Int32)))), (.int (nar .char (own_dg i0 (11 : Int32)))), (.int (nar .char (own_dg i0 (12 : Int32)))), (.int (nar .char (own_dg i0 (13 : Int32)))), (.int (nar .char (own_dg i0 (14 : Int32)))), (.int (nar .char (own_dg i0 (15 : Int32)))), (.int (nar .char (own_dg i1 (0 : Int32)))), (.int (nar .char (own_dg i1 (1 : Int32)))), (.int (nar .char (own_dg i1 (2 : Int32)))), (.int 0), (.int 0), (.int 0), (.int 0), (.int 0), (.int 0), (.int 0), (.int 0), (.int 0), (.int 0), (.int 0), (.int 0), (.int 0), (.int 0), (.int 0), (.int 0), (.int 0), (.int 0), (.int 0), (.int 0), (.int 0), (.int 0), (.int 0), (.int 0), (.int 0)]) .char := A36.same W38
  have x38 : Ext h0 h38 := own_ext_wr x36 W38 j1
  have N38 := Fr.snoc X38 N37 (Nat.le_trans Z0 j1)
  refine own_go st38 ?_
  show own_G p e below _ T38 (mkF m 202 #[.val (.long i0), .second, .val (.long i1), .second, .val (.long i2), .second, .val (.int i3), .val (.ref a1), .unset, .unset, .unset, .unset] [])
  refine own_go (fun t k => XS.aload X38.here hx rfl (hb hby at_202) rfl rfl k) ?_
  show own_G p e below _ T38 (mkF m 204 #[.val (.long i0), .second, .val (.long i1), .second, .val (.long i2), .second, .val (.int i3), .val (.ref a1), .unset, .unset, .unset, .unset] [(.ref a1)])
  refine own_go (fun t k => XS.bipush X38.here hx rfl (hb hby at_204) k) ?_
  show own_G p e below _ T38 (mkF m 206 #[.val (.long i0), .second, .val (.long i1), .second, .val (.long i2), .second, .val (.int i3), .val (.ref a1), .unset, .unset, .unset, .unset] [(.int (19 : Int32)), (.ref a1)])
  refine own_go (fun t k => XT.lloadN X38.here hx rfl (hb hby at_206) rfl k) ?_
  show own_G p e below _ T38 (mkF m 207 #[.val (.long i0), .second, .val (.long i1), .second, .val (.long i2), .second, .val (.int i3), .val (.ref a1), .unset, .unset, .unset, .unset] [(.long i1), (.int (19 : Int32)), (.ref a1)])
  refine own_go (fun t k => XS.iconst X38.here hx rfl (hb hby at_207) k) ?_
  show own_G p e below _ T38 (mkF m 208 #[.val (.long i0), .second, .val (.long i1), .second, .val (.long i2), .second, .val (.int i3), .val (.ref a1), .unset, .unset, .unset, .unset] [(.int (3 : Int32)), (.long i1), (.int (19 : Int32)), (.ref a1)])
  obtain ⟨T39, L39, v39, X39, ⟨rfl, rfl, q39⟩, st39⟩ := own_callS X38 hx hZ (y := (⟨"com/example/compensa/compensa/CheckDigitsGeneralDigitPinLaw", "dg", "(JI)C"⟩ : MethodName)) hown (hw _ (List.mem_of_getElem? (i := 1) rfl)) (hw _ (List.mem_of_getElem? (i := 2) rfl)) (hw _ (List.mem_of_getElem? (i := 3) rfl)) (hw _ (List.mem_of_getElem? (i := 4) rfl)) (by decide) (c_dg l Z a0 hw i1 (3 : Int32) h38) e38 (argsL := [(.long i1), (.int (3 : Int32))]) (rest := [(.int (19 : Int32)), (.ref a1)]) (g := (mkF m 208 #[.val (.long i0), .second, .val (.long i1), .second, .val (.long i2), .second, .val (.int i3), .val (.ref a1), .unset, .unset, .unset, .unset] [(.int (3 : Int32)), (.long i1), (.int (19 : Int32)), (.ref a1)])) rfl (by rw [hml]; rfl) (ps := [.long, .int]) (r := (some .char)) (by decide +kernel) rfl rfl (W := 2) (by show 2 * 0 + _ ≤ _; exact Nat.le_of_eq rfl) (hb hby at_208) (by decide) (by decide) (by decide) (by decide)
  have N39 := Fr.app N38 (Fr.nil n0)
  refine own_go st39 ?_
  show own_G p e below _ T39 (mkF m 211 #[.val (.long i0), .second, .val (.long i1), .second, .val (.long i2), .second, .val (.int i3), .val (.ref a1), .unset, .unset, .unset, .unset] [(.int (own_dg i1 (3 : Int32))), (.int (19 : Int32)), (.ref a1)])
  obtain ⟨T40, h40, X40, e40, W40, st40⟩ := stC X39 hx hZ q39 A38 (j := (19 : Int32)) (own_in (n := 44) rfl (by decide)) (g := (mkF m 211 #[.val (.long i0), .second, .val (.long i1), .second, .val (.long i2), .second, .val (.int i3), .val (.ref a1), .unset, .unset, .unset, .unset] [(.int (own_dg i1 (3 : Int32))), (.int (19 : Int32)), (.ref a1)])) rfl rfl (hb hby at_211)
  have A40 : Arr Z h40 a1 (own_cell c1 #[(.int (nar .char (own_dg i0 (0 : Int32)))), (.int (nar .char (own_dg i0 (1 : Int32)))), (.int (nar .char (own_dg i0 (2 : Int32)))), (.int (nar .char (own_dg i0 (3 : Int32)))), (.int (nar .char (i3 &&& (255 : Int32)).toUInt32.toUInt16.toUInt32.toInt32)), (.int (nar .char (own_dg i0 (5 : Int32)))), (.int (nar .char (own_dg i0 (6 : Int32)))), (.int (nar .char (own_dg i0 (7 : Int32)))), (.int (nar .char (own_dg i0 (8 : Int32)))), (.int (nar .char (own_dg i0 (9 : Int32)))), (.int (nar .char (own_dg i0 (10 : Int32)))), (.int (nar .char (own_dg i0 (11 : Int32)))), (.int (nar .char (own_dg i0 (12 : Int32)))), (.int (nar .char (own_dg i0 (13 : Int32)))), (.int (nar .char (own_dg i0 (14 : Int32)))), (.int (nar .char (own_dg i0 (15 : Int32)))), (.int (nar .char (own_dg i1 (0 : Int32)))), (.int (nar .char (own_dg i1 (1 : Int32)))), (.int (nar .char (own_dg i1 (2 : Int32)))), (.int (nar .char (own_dg i1 (3 : Int32)))), (.int 0), (.int 0), (.int 0), (.int 0), (.int 0), (.int 0), (.int 0), (.int 0), (.int 0), (.int 0), (.int 0), (.int 0), (.int 0), (.int 0), (.int 0), (.int 0), (.int 0), (.int 0), (.int 0), (.int 0), (.int 0), (.int 0), (.int 0), (.int 0)]) .char := A38.same W40
  have x40 : Ext h0 h40 := own_ext_wr x38 W40 j1
  have N40 := Fr.snoc X40 N39 (Nat.le_trans Z0 j1)
  refine own_go st40 ?_
  show own_G p e below _ T40 (mkF m 212 #[.val (.long i0), .second, .val (.long i1), .second, .val (.long i2), .second, .val (.int i3), .val (.ref a1), .unset, .unset, .unset, .unset] [])
  refine own_go (fun t k => XS.aload X40.here hx rfl (hb hby at_212) rfl rfl k) ?_
  show own_G p e below _ T40 (mkF m 214 #[.val (.long i0), .second, .val (.long i1), .second, .val (.long i2), .second, .val (.int i3), .val (.ref a1), .unset, .unset, .unset, .unset] [(.ref a1)])
  refine own_go (fun t k => XS.bipush X40.here hx rfl (hb hby at_214) k) ?_
  show own_G p e below _ T40 (mkF m 216 #[.val (.long i0), .second, .val (.long i1), .second, .val (.long i2), .second, .val (.int i3), .val (.ref a1), .unset, .unset, .unset, .unset] [(.int (20 : Int32)), (.ref a1)])
  refine own_go (fun t k => XT.lloadN X40.here hx rfl (hb hby at_216) rfl k) ?_
  show own_G p e below _ T40 (mkF m 217 #[.val (.long i0), .second, .val (.long i1), .second, .val (.long i2), .second, .val (.int i3), .val (.ref a1), .unset, .unset, .unset, .unset] [(.long i1), (.int (20 : Int32)), (.ref a1)])
  refine own_go (fun t k => XS.iconst X40.here hx rfl (hb hby at_217) k) ?_
  show own_G p e below _ T40 (mkF m 218 #[.val (.long i0), .second, .val (.long i1), .second, .val (.long i2), .second, .val (.int i3), .val (.ref a1), .unset, .unset, .unset, .unset] [(.int (4 : Int32)), (.long i1), (.int (20 : Int32)), (.ref a1)])
  obtain ⟨T41, L41, v41, X41, ⟨rfl, rfl, q41⟩, st41⟩ := own_callS X40 hx hZ (y := (⟨"com/example/compensa/compensa/CheckDigitsGeneralDigitPinLaw", "dg", "(JI)C"⟩ : MethodName)) hown (hw _ (List.mem_of_getElem? (i := 1) rfl)) (hw _ (List.mem_of_getElem? (i := 2) rfl)) (hw _ (List.mem_of_getElem? (i := 3) rfl)) (hw _ (List.mem_of_getElem? (i := 4) rfl)) (by decide) (c_dg l Z a0 hw i1 (4 : Int32) h40) e40 (argsL := [(.long i1), (.int (4 : Int32))]) (rest := [(.int (20 : Int32)), (.ref a1)]) (g := (mkF m 218 #[.val (.long i0), .second, .val (.long i1), .second, .val (.long i2), .second, .val (.int i3), .val (.ref a1), .unset, .unset, .unset, .unset] [(.int (4 : Int32)), (.long i1), (.int (20 : Int32)), (.ref a1)])) rfl (by rw [hml]; rfl) (ps := [.long, .int]) (r := (some .char)) (by decide +kernel) rfl rfl (W := 2) (by show 2 * 0 + _ ≤ _; exact Nat.le_of_eq rfl) (hb hby at_218) (by decide) (by decide) (by decide) (by decide)
  have N41 := Fr.app N40 (Fr.nil n0)
  refine own_go st41 ?_
  show own_G p e below _ T41 (mkF m 221 #[.val (.long i0), .second, .val (.long i1), .second, .val (.long i2), .second, .val (.int i3), .val (.ref a1), .unset, .unset, .unset, .unset] [(.int (own_dg i1 (4 : Int32))), (.int (20 : Int32)), (.ref a1)])
  obtain ⟨T42, h42, X42, e42, W42, st42⟩ := stC X41 hx hZ q41 A40 (j := (20 : Int32)) (own_in (n := 44) rfl (by decide)) (g := (mkF m 221 #[.val (.long i0), .second, .val (.long i1), .second, .val (.long i2), .second, .val (.int i3), .val (.ref a1), .unset, .unset, .unset, .unset] [(.int (own_dg i1 (4 : Int32))), (.int (20 : Int32)), (.ref a1)])) rfl rfl (hb hby at_221)
  have A42 : Arr Z h42 a1 (own_cell c1 #[(.int (nar .char (own_dg i0 (0 : Int32)))), (.int (nar .char (own_dg i0 (1 : Int32)))), (.int (nar .char (own_dg i0 (2 : Int32)))), (.int (nar .char (own_dg i0 (3 : Int32)))), (.int (nar .char (i3 &&& (255 : Int32)).toUInt32.toUInt16.toUInt32.toInt32)), (.int (nar .char (own_dg i0 (5 : Int32)))), (.int (nar .char (own_dg i0 (6 : Int32)))), (.int (nar .char (own_dg i0 (7 : Int32)))), (.int (nar .char (own_dg i0 (8 : Int32)))), (.int (nar .char (own_dg i0 (9 : Int32)))), (.int (nar .char (own_dg i0 (10 : Int32)))), (.int (nar .char (own_dg i0 (11 : Int32)))), (.int (nar .char (own_dg i0 (12 : Int32)))), (.int (nar .char (own_dg i0 (13 : Int32)))), (.int (nar .char (own_dg i0 (14 : Int32)))), (.int (nar .char (own_dg i0 (15 : Int32)))), (.int (nar .char (own_dg i1 (0 : Int32)))), (.int (nar .char (own_dg i1 (1 : Int32)))), (.int (nar .char (own_dg i1 (2 : Int32)))), (.int (nar .char (own_dg i1 (3 : Int32)))), (.int (nar .char (own_dg i1 (4 : Int32)))), (.int 0), (.int 0), (.int 0), (.int 0), (.int 0), (.int 0), (.int 0), (.int 0), (.int 0), (.int 0), (.int 0), (.int 0), (.int 0), (.int 0), (.int 0), (.int 0), (.int 0), (.int 0), (.int 0), (.int 0), (.int 0), (.int 0), (.int 0)]) .char := A40.same W42
  have x42 : Ext h0 h42 := own_ext_wr x40 W42 j1
  have N42 := Fr.snoc X42 N41 (Nat.le_trans Z0 j1)
  refine own_go st42 ?_
  show own_G p e below _ T42 (mkF m 222 #[.val (.long i0), .second, .val (.long i1), .second, .val (.long i2), .second, .val (.int i3), .val (.ref a1), .unset, .unset, .unset, .unset] [])
  refine own_go (fun t k => XS.aload X42.here hx rfl (hb hby at_222) rfl rfl k) ?_
  show own_G p e below _ T42 (mkF m 224 #[.val (.long i0), .second, .val (.long i1), .second, .val (.long i2), .second, .val (.int i3), .val (.ref a1), .unset, .unset, .unset, .unset] [(.ref a1)])
  refine own_go (fun t k => XS.bipush X42.here hx rfl (hb hby at_224) k) ?_
  show own_G p e below _ T42 (mkF m 226 #[.val (.long i0), .second, .val (.long i1), .second, .val (.long i2), .second, .val (.int i3), .val (.ref a1), .unset, .unset, .unset, .unset] [(.int (21 : Int32)), (.ref a1)])
  refine own_go (fun t k => XT.lloadN X42.here hx rfl (hb hby at_226) rfl k) ?_
  show own_G p e below _ T42 (mkF m 227 #[.val (.long i0), .second, .val (.long i1), .second, .val (.long i2), .second, .val (.int i3), .val (.ref a1), .unset, .unset, .unset, .unset] [(.long i1), (.int (21 : Int32)), (.ref a1)])
  refine own_go (fun t k => XS.iconst X42.here hx rfl (hb hby at_227) k) ?_
  show own_G p e below _ T42 (mkF m 228 #[.val (.long i0), .second, .val (.long i1), .second, .val (.long i2), .second, .val (.int i3), .val (.ref a1), .unset, .unset, .unset, .unset] [(.int (5 : Int32)), (.long i1), (.int (21 : Int32)), (.ref a1)])
  obtain ⟨T43, L43, v43, X43, ⟨rfl, rfl, q43⟩, st43⟩ := own_callS X42 hx hZ (y := (⟨"com/example/compensa/compensa/CheckDigitsGeneralDigitPinLaw", "dg", "(JI)C"⟩ : MethodName)) hown (hw _ (List.mem_of_getElem? (i := 1) rfl)) (hw _ (List.mem_of_getElem? (i := 2) rfl)) (hw _ (List.mem_of_getElem? (i := 3) rfl)) (hw _ (List.mem_of_getElem? (i := 4) rfl)) (by decide) (c_dg l Z a0 hw i1 (5 : Int32) h42) e42 (argsL := [(.long i1), (.int (5 : Int32))]) (rest := [(.int (21 : Int32)), (.ref a1)]) (g := (mkF m 228 #[.val (.long i0), .second, .val (.long i1), .second, .val (.long i2), .second, .val (.int i3), .val (.ref a1), .unset, .unset, .unset, .unset] [(.int (5 : Int32)), (.long i1), (.int (21 : Int32)), (.ref a1)])) rfl (by rw [hml]; rfl) (ps := [.long, .int]) (r := (some .char)) (by decide +kernel) rfl rfl (W := 2) (by show 2 * 0 + _ ≤ _; exact Nat.le_of_eq rfl) (hb hby at_228) (by decide) (by decide) (by decide) (by decide)
  have N43 := Fr.app N42 (Fr.nil n0)
  refine own_go st43 ?_
  show own_G p e below _ T43 (mkF m 231 #[.val (.long i0), .second, .val (.long i1), .second, .val (.long i2), .second, .val (.int i3), .val (.ref a1), .unset, .unset, .unset, .unset] [(.int (own_dg i1 (5 : Int32))), (.int (21 : Int32)), (.ref a1)])
  obtain ⟨T44, h44, X44, e44, W44, st44⟩ := stC X43 hx hZ q43 A42 (j := (21 : Int32)) (own_in (n := 44) rfl (by decide)) (g := (mkF m 231 #[.val (.long i0), .second, .val (.long i1), .second, .val (.long i2), .second, .val (.int i3), .val (.ref a1), .unset, .unset, .unset, .unset] [(.int (own_dg i1 (5 : Int32))), (.int (21 : Int32)), (.ref a1)])) rfl rfl (hb hby at_231)
  have A44 : Arr Z h44 a1 (own_cell c1 #[(.int (nar .char (own_dg i0 (0 : Int32)))), (.int (nar .char (own_dg i0 (1 : Int32)))), (.int (nar .char (own_dg i0 (2 : Int32)))), (.int (nar .char (own_dg i0 (3 : Int32)))), (.int (nar .char (i3 &&& (255 : Int32)).toUInt32.toUInt16.toUInt32.toInt32)), (.int (nar .char (own_dg i0 (5 : Int32)))), (.int (nar .char (own_dg i0 (6 : Int32)))), (.int (nar .char (own_dg i0 (7 : Int32)))), (.int (nar .char (own_dg i0 (8 : Int32)))), (.int (nar .char (own_dg i0 (9 : Int32)))), (.int (nar .char (own_dg i0 (10 : Int32)))), (.int (nar .char (own_dg i0 (11 : Int32)))), (.int (nar .char (own_dg i0 (12 : Int32)))), (.int (nar .char (own_dg i0 (13 : Int32)))), (.int (nar .char (own_dg i0 (14 : Int32)))), (.int (nar .char (own_dg i0 (15 : Int32)))), (.int (nar .char (own_dg i1 (0 : Int32)))), (.int (nar .char (own_dg i1 (1 : Int32)))), (.int (nar .char (own_dg i1 (2 : Int32)))), (.int (nar .char (own_dg i1 (3 : Int32)))), (.int (nar .char (own_dg i1 (4 : Int32)))), (.int (nar .char (own_dg i1 (5 : Int32)))), (.int 0), (.int 0), (.int 0), (.int 0), (.int 0), (.int 0), (.int 0), (.int 0), (.int 0), (.int 0), (.int 0), (.int 0), (.int 0), (.int 0), (.int 0), (.int 0), (.int 0), (.int 0), (.int 0), (.int 0), (.int 0), (.int 0)]) .char := A42.same W44
  have x44 : Ext h0 h44 := own_ext_wr x42 W44 j1
  have N44 := Fr.snoc X44 N43 (Nat.le_trans Z0 j1)
  refine own_go st44 ?_
  show own_G p e below _ T44 (mkF m 232 #[.val (.long i0), .second, .val (.long i1), .second, .val (.long i2), .second, .val (.int i3), .val (.ref a1), .unset, .unset, .unset, .unset] [])
  refine own_go (fun t k => XS.aload X44.here hx rfl (hb hby at_232) rfl rfl k) ?_
  show own_G p e below _ T44 (mkF m 234 #[.val (.long i0), .second, .val (.long i1), .second, .val (.long i2), .second, .val (.int i3), .val (.ref a1), .unset, .unset, .unset, .unset] [(.ref a1)])
  refine own_go (fun t k => XS.bipush X44.here hx rfl (hb hby at_234) k) ?_
  show own_G p e below _ T44 (mkF m 236 #[.val (.long i0), .second, .val (.long i1), .second, .val (.long i2), .second, .val (.int i3), .val (.ref a1), .unset, .unset, .unset, .unset] [(.int (22 : Int32)), (.ref a1)])
  refine own_go (fun t k => XT.lloadN X44.here hx rfl (hb hby at_236) rfl k) ?_
  show own_G p e below _ T44 (mkF m 237 #[.val (.long i0), .second, .val (.long i1), .second, .val (.long i2), .second, .val (.int i3), .val (.ref a1), .unset, .unset, .unset, .unset] [(.long i1), (.int (22 : Int32)), (.ref a1)])
  refine own_go (fun t k => XS.bipush X44.here hx rfl (hb hby at_237) k) ?_
  show own_G p e below _ T44 (mkF m 239 #[.val (.long i0), .second, .val (.long i1), .second, .val (.long i2), .second, .val (.int i3), .val (.ref a1), .unset, .unset, .unset, .unset] [(.int (6 : Int32)), (.long i1), (.int (22 : Int32)), (.ref a1)])
  obtain ⟨T45, L45, v45, X45, ⟨rfl, rfl, q45⟩, st45⟩ := own_callS X44 hx hZ (y := (⟨"com/example/compensa/compensa/CheckDigitsGeneralDigitPinLaw", "dg", "(JI)C"⟩ : MethodName)) hown (hw _ (List.mem_of_getElem? (i := 1) rfl)) (hw _ (List.mem_of_getElem? (i := 2) rfl)) (hw _ (List.mem_of_getElem? (i := 3) rfl)) (hw _ (List.mem_of_getElem? (i := 4) rfl)) (by decide) (c_dg l Z a0 hw i1 (6 : Int32) h44) e44 (argsL := [(.long i1), (.int (6 : Int32))]) (rest := [(.int (22 : Int32)), (.ref a1)]) (g := (mkF m 239 #[.val (.long i0), .second, .val (.long i1), .second, .val (.long i2), .second, .val (.int i3), .val (.ref a1), .unset, .unset, .unset, .unset] [(.int (6 : Int32)), (.long i1), (.int (22 : Int32)), (.ref a1)])) rfl (by rw [hml]; rfl) (ps := [.long, .int]) (r := (some .char)) (by decide +kernel) rfl rfl (W := 2) (by show 2 * 0 + _ ≤ _; exact Nat.le_of_eq rfl) (hb hby at_239) (by decide) (by decide) (by decide) (by decide)
  have N45 := Fr.app N44 (Fr.nil n0)
  refine own_go st45 ?_
  show own_G p e below _ T45 (mkF m 242 #[.val (.long i0), .second, .val (.long i1), .second, .val (.long i2), .second, .val (.int i3), .val (.ref a1), .unset, .unset, .unset, .unset] [(.int (own_dg i1 (6 : Int32))), (.int (22 : Int32)), (.ref a1)])
  obtain ⟨T46, h46, X46, e46, W46, st46⟩ := stC X45 hx hZ q45 A44 (j := (22 : Int32)) (own_in (n := 44) rfl (by decide)) (g := (mkF m 242 #[.val (.long i0), .second, .val (.long i1), .second, .val (.long i2), .second, .val (.int i3), .val (.ref a1), .unset, .unset, .unset, .unset] [(.int (own_dg i1 (6 : Int32))), (.int (22 : Int32)), (.ref a1)])) rfl rfl (hb hby at_242)
  have A46 : Arr Z h46 a1 (own_cell c1 #[(.int (nar .char (own_dg i0 (0 : Int32)))), (.int (nar .char (own_dg i0 (1 : Int32)))), (.int (nar .char (own_dg i0 (2 : Int32)))), (.int (nar .char (own_dg i0 (3 : Int32)))), (.int (nar .char (i3 &&& (255 : Int32)).toUInt32.toUInt16.toUInt32.toInt32)), (.int (nar .char (own_dg i0 (5 : Int32)))), (.int (nar .char (own_dg i0 (6 : Int32)))), (.int (nar .char (own_dg i0 (7 : Int32)))), (.int (nar .char (own_dg i0 (8 : Int32)))), (.int (nar .char (own_dg i0 (9 : Int32)))), (.int (nar .char (own_dg i0 (10 : Int32)))), (.int (nar .char (own_dg i0 (11 : Int32)))), (.int (nar .char (own_dg i0 (12 : Int32)))), (.int (nar .char (own_dg i0 (13 : Int32)))), (.int (nar .char (own_dg i0 (14 : Int32)))), (.int (nar .char (own_dg i0 (15 : Int32)))), (.int (nar .char (own_dg i1 (0 : Int32)))), (.int (nar .char (own_dg i1 (1 : Int32)))), (.int (nar .char (own_dg i1 (2 : Int32)))), (.int (nar .char (own_dg i1 (3 : Int32)))), (.int (nar .char (own_dg i1 (4 : Int32)))), (.int (nar .char (own_dg i1 (5 : Int32)))), (.int (nar .char (own_dg i1 (6 : Int32)))), (.int 0), (.int 0), (.int 0), (.int 0), (.int 0), (.int 0), (.int 0), (.int 0), (.int 0), (.int 0), (.int 0), (.int 0), (.int 0), (.int 0), (.int 0), (.int 0), (.int 0), (.int 0), (.int 0), (.int 0), (.int 0)]) .char := A44.same W46
  have x46 : Ext h0 h46 := own_ext_wr x44 W46 j1
  have N46 := Fr.snoc X46 N45 (Nat.le_trans Z0 j1)
  refine own_go st46 ?_
  show own_G p e below _ T46 (mkF m 243 #[.val (.long i0), .second, .val (.long i1), .second, .val (.long i2), .second, .val (.int i3), .val (.ref a1), .unset, .unset, .unset, .unset] [])
  refine own_go (fun t k => XS.aload X46.here hx rfl (hb hby at_243) rfl rfl k) ?_
  show own_G p e below _ T46 (mkF m 245 #[.val (.long i0), .second, .val (.long i1), .second, .val (.long i2), .second, .val (.int i3), .val (.ref a1), .unset, .unset, .unset, .unset] [(.ref a1)])
  refine own_go (fun t k => XS.bipush X46.here hx rfl (hb hby at_245) k) ?_
  show own_G p e below _ T46 (mkF m 247 #[.val (.long i0), .second, .val (.long i1), .second, .val (.long i2), .second, .val (.int i3), .val (.ref a1), .unset, .unset, .unset, .unset] [(.int (23 : Int32)), (.ref a1)])
  refine own_go (fun t k => XT.lloadN X46.here hx rfl (hb hby at_247) rfl k) ?_
  show own_G p e below _ T46 (mkF m 248 #[.val (.long i0), .second, .val (.long i1), .second, .val (.long i2), .second, .val (.int i3), .val (.ref a1), .unset, .unset, .unset, .unset] [(.long i1), (.int (23 : Int32)), (.ref a1)])
  refine own_go (fun t k => XS.bipush X46.here hx rfl (hb hby at_248) k) ?_
  show own_G p e below _ T46 (mkF m 250 #[.val (.long i0), .second, .val (.long i1), .second, .val (.long i2), .second, .val (.int i3), .val (.ref a1), .unset, .unset, .unset, .unset] [(.int (7 : Int32)), (.long i1), (.int (23 : Int32)), (.ref a1)])
  obtain ⟨T47, L47, v47, X47, ⟨rfl, rfl, q47⟩, st47⟩ := own_callS X46 hx hZ (y := (⟨"com/example/compensa/compensa/CheckDigitsGeneralDigitPinLaw", "dg", "(JI)C"⟩ : MethodName)) hown (hw _ (List.mem_of_getElem? (i := 1) rfl)) (hw _ (List.mem_of_getElem? (i := 2) rfl)) (hw _ (List.mem_of_getElem? (i := 3) rfl)) (hw _ (List.mem_of_getElem? (i := 4) rfl)) (by decide) (c_dg l Z a0 hw i1 (7 : Int32) h46) e46 (argsL := [(.long i1), (.int (7 : Int32))]) (rest := [(.int (23 : Int32)), (.ref a1)]) (g := (mkF m 250 #[.val (.long i0), .second, .val (.long i1), .second, .val (.long i2), .second, .val (.int i3), .val (.ref a1), .unset, .unset, .unset, .unset] [(.int (7 : Int32)), (.long i1), (.int (23 : Int32)), (.ref a1)])) rfl (by rw [hml]; rfl) (ps := [.long, .int]) (r := (some .char)) (by decide +kernel) rfl rfl (W := 2) (by show 2 * 0 + _ ≤ _; exact Nat.le_of_eq rfl) (hb hby at_250) (by decide) (by decide) (by decide) (by decide)
  have N47 := Fr.app N46 (Fr.nil n0)
  refine own_go st47 ?_
  show own_G p e below _ T47 (mkF m 253 #[.val (.long i0), .second, .val (.long i1), .second, .val (.long i2), .second, .val (.int i3), .val (.ref a1), .unset, .unset, .unset, .unset] [(.int (own_dg i1 (7 : Int32))), (.int (23 : Int32)), (.ref a1)])
  obtain ⟨T48, h48, X48, e48, W48, st48⟩ := stC X47 hx hZ q47 A46 (j := (23 : Int32)) (own_in (n := 44) rfl (by decide)) (g := (mkF m 253 #[.val (.long i0), .second, .val (.long i1), .second, .val (.long i2), .second, .val (.int i3), .val (.ref a1), .unset, .unset, .unset, .unset] [(.int (own_dg i1 (7 : Int32))), (.int (23 : Int32)), (.ref a1)])) rfl rfl (hb hby at_253)
  have A48 : Arr Z h48 a1 (own_cell c1 #[(.int (nar .char (own_dg i0 (0 : Int32)))), (.int (nar .char (own_dg i0 (1 : Int32)))), (.int (nar .char (own_dg i0 (2 : Int32)))), (.int (nar .char (own_dg i0 (3 : Int32)))), (.int (nar .char (i3 &&& (255 : Int32)).toUInt32.toUInt16.toUInt32.toInt32)), (.int (nar .char (own_dg i0 (5 : Int32)))), (.int (nar .char (own_dg i0 (6 : Int32)))), (.int (nar .char (own_dg i0 (7 : Int32)))), (.int (nar .char (own_dg i0 (8 : Int32)))), (.int (nar .char (own_dg i0 (9 : Int32)))), (.int (nar .char (own_dg i0 (10 : Int32)))), (.int (nar .char (own_dg i0 (11 : Int32)))), (.int (nar .char (own_dg i0 (12 : Int32)))), (.int (nar .char (own_dg i0 (13 : Int32)))), (.int (nar .char (own_dg i0 (14 : Int32)))), (.int (nar .char (own_dg i0 (15 : Int32)))), (.int (nar .char (own_dg i1 (0 : Int32)))), (.int (nar .char (own_dg i1 (1 : Int32)))), (.int (nar .char (own_dg i1 (2 : Int32)))), (.int (nar .char (own_dg i1 (3 : Int32)))), (.int (nar .char (own_dg i1 (4 : Int32)))), (.int (nar .char (own_dg i1 (5 : Int32)))), (.int (nar .char (own_dg i1 (6 : Int32)))), (.int (nar .char (own_dg i1 (7 : Int32)))), (.int 0), (.int 0), (.int 0), (.int 0), (.int 0), (.int 0), (.int 0), (.int 0), (.int 0), (.int 0), (.int 0), (.int 0), (.int 0), (.int 0), (.int 0), (.int 0), (.int 0), (.int 0), (.int 0), (.int 0)]) .char := A46.same W48
  have x48 : Ext h0 h48 := own_ext_wr x46 W48 j1
  have N48 := Fr.snoc X48 N47 (Nat.le_trans Z0 j1)
  refine own_go st48 ?_
  show own_G p e below _ T48 (mkF m 254 #[.val (.long i0), .second, .val (.long i1), .second, .val (.long i2), .second, .val (.int i3), .val (.ref a1), .unset, .unset, .unset, .unset] [])
  refine own_go (fun t k => XS.aload X48.here hx rfl (hb hby at_254) rfl rfl k) ?_
  show own_G p e below _ T48 (mkF m 256 #[.val (.long i0), .second, .val (.long i1), .second, .val (.long i2), .second, .val (.int i3), .val (.ref a1), .unset, .unset, .unset, .unset] [(.ref a1)])
  refine own_go (fun t k => XS.bipush X48.here hx rfl (hb hby at_256) k) ?_
  show own_G p e below _ T48 (mkF m 258 #[.val (.long i0), .second, .val (.long i1), .second, .val (.long i2), .second, .val (.int i3), .val (.ref a1), .unset, .unset, .unset, .unset] [(.int (24 : Int32)), (.ref a1)])
  refine own_go (fun t k => XT.lloadN X48.here hx rfl (hb hby at_258) rfl k) ?_
  show own_G p e below _ T48 (mkF m 259 #[.val (.long i0), .second, .val (.long i1), .second, .val (.long i2), .second, .val (.int i3), .val (.ref a1), .unset, .unset, .unset, .unset] [(.long i1), (.int (24 : Int32)), (.ref a1)])
  refine own_go (fun t k => XS.bipush X48.here hx rfl (hb hby at_259) k) ?_
  show own_G p e below _ T48 (mkF m 261 #[.val (.long i0), .second, .val (.long i1), .second, .val (.long i2), .second, .val (.int i3), .val (.ref a1), .unset, .unset, .unset, .unset] [(.int (8 : Int32)), (.long i1), (.int (24 : Int32)), (.ref a1)])
  obtain ⟨T49, L49, v49, X49, ⟨rfl, rfl, q49⟩, st49⟩ := own_callS X48 hx hZ (y := (⟨"com/example/compensa/compensa/CheckDigitsGeneralDigitPinLaw", "dg", "(JI)C"⟩ : MethodName)) hown (hw _ (List.mem_of_getElem? (i := 1) rfl)) (hw _ (List.mem_of_getElem? (i := 2) rfl)) (hw _ (List.mem_of_getElem? (i := 3) rfl)) (hw _ (List.mem_of_getElem? (i := 4) rfl)) (by decide) (c_dg l Z a0 hw i1 (8 : Int32) h48) e48 (argsL := [(.long i1), (.int (8 : Int32))]) (rest := [(.int (24 : Int32)), (.ref a1)]) (g := (mkF m 261 #[.val (.long i0), .second, .val (.long i1), .second, .val (.long i2), .second, .val (.int i3), .val (.ref a1), .unset, .unset, .unset, .unset] [(.int (8 : Int32)), (.long i1), (.int (24 : Int32)), (.ref a1)])) rfl (by rw [hml]; rfl) (ps := [.long, .int]) (r := (some .char)) (by decide +kernel) rfl rfl (W := 2) (by show 2 * 0 + _ ≤ _; exact Nat.le_of_eq rfl) (hb hby at_261) (by decide) (by decide) (by decide) (by decide)
  have N49 := Fr.app N48 (Fr.nil n0)
  refine own_go st49 ?_
  show own_G p e below _ T49 (mkF m 264 #[.val (.long i0), .second, .val (.long i1), .second, .val (.long i2), .second, .val (.int i3), .val (.ref a1), .unset, .unset, .unset, .unset] [(.int (own_dg i1 (8 : Int32))), (.int (24 : Int32)), (.ref a1)])
  obtain ⟨T50, h50, X50, e50, W50, st50⟩ := stC X49 hx hZ q49 A48 (j := (24 : Int32)) (own_in (n := 44) rfl (by decide)) (g := (mkF m 264 #[.val (.long i0), .second, .val (.long i1), .second, .val (.long i2), .second, .val (.int i3), .val (.ref a1), .unset, .unset, .unset, .unset] [(.int (own_dg i1 (8 : Int32))), (.int (24 : Int32)), (.ref a1)])) rfl rfl (hb hby at_264)
  have A50 : Arr Z h50 a1 (own_cell c1 #[(.int (nar .char (own_dg i0 (0 : Int32)))), (.int (nar .char (own_dg i0 (1 : Int32)))), (.int (nar .char (own_dg i0 (2 : Int32)))), (.int (nar .char (own_dg i0 (3 : Int32)))), (.int (nar .char (i3 &&& (255 : Int32)).toUInt32.toUInt16.toUInt32.toInt32)), (.int (nar .char (own_dg i0 (5 : Int32)))), (.int (nar .char (own_dg i0 (6 : Int32)))), (.int (nar .char (own_dg i0 (7 : Int32)))), (.int (nar .char (own_dg i0 (8 : Int32)))), (.int (nar .char (own_dg i0 (9 : Int32)))), (.int (nar .char (own_dg i0 (10 : Int32)))), (.int (nar .char (own_dg i0 (11 : Int32)))), (.int (nar .char (own_dg i0 (12 : Int32)))), (.int (nar .char (own_dg i0 (13 : Int32)))), (.int (nar .char (own_dg i0 (14 : Int32)))), (.int (nar .char (own_dg i0 (15 : Int32)))), (.int (nar .char (own_dg i1 (0 : Int32)))), (.int (nar .char (own_dg i1 (1 : Int32)))), (.int (nar .char (own_dg i1 (2 : Int32)))), (.int (nar .char (own_dg i1 (3 : Int32)))), (.int (nar .char (own_dg i1 (4 : Int32)))), (.int (nar .char (own_dg i1 (5 : Int32)))), (.int (nar .char (own_dg i1 (6 : Int32)))), (.int (nar .char (own_dg i1 (7 : Int32)))), (.int (nar .char (own_dg i1 (8 : Int32)))), (.int 0), (.int 0), (.int 0), (.int 0), (.int 0), (.int 0), (.int 0), (.int 0), (.int 0), (.int 0), (.int 0), (.int 0), (.int 0), (.int 0), (.int 0), (.int 0), (.int 0), (.int 0), (.int 0)]) .char := A48.same W50
  have x50 : Ext h0 h50 := own_ext_wr x48 W50 j1
  have N50 := Fr.snoc X50 N49 (Nat.le_trans Z0 j1)
  refine own_go st50 ?_
  show own_G p e below _ T50 (mkF m 265 #[.val (.long i0), .second, .val (.long i1), .second, .val (.long i2), .second, .val (.int i3), .val (.ref a1), .unset, .unset, .unset, .unset] [])
  refine own_go (fun t k => XS.aload X50.here hx rfl (hb hby at_265) rfl rfl k) ?_
  show own_G p e below _ T50 (mkF m 267 #[.val (.long i0), .second, .val (.long i1), .second, .val (.long i2), .second, .val (.int i3), .val (.ref a1), .unset, .unset, .unset, .unset] [(.ref a1)])
  refine own_go (fun t k => XS.bipush X50.here hx rfl (hb hby at_267) k) ?_
  show own_G p e below _ T50 (mkF m 269 #[.val (.long i0), .second, .val (.long i1), .second, .val (.long i2), .second, .val (.int i3), .val (.ref a1), .unset, .unset, .unset, .unset] [(.int (25 : Int32)), (.ref a1)])
  refine own_go (fun t k => XT.lloadN X50.here hx rfl (hb hby at_269) rfl k) ?_
  show own_G p e below _ T50 (mkF m 270 #[.val (.long i0), .second, .val (.long i1), .second, .val (.long i2), .second, .val (.int i3), .val (.ref a1), .unset, .unset, .unset, .unset] [(.long i1), (.int (25 : Int32)), (.ref a1)])
  refine own_go (fun t k => XS.bipush X50.here hx rfl (hb hby at_270) k) ?_
  show own_G p e below _ T50 (mkF m 272 #[.val (.long i0), .second, .val (.long i1), .second, .val (.long i2), .second, .val (.int i3), .val (.ref a1), .unset, .unset, .unset, .unset] [(.int (9 : Int32)), (.long i1), (.int (25 : Int32)), (.ref a1)])
  obtain ⟨T51, L51, v51, X51, ⟨rfl, rfl, q51⟩, st51⟩ := own_callS X50 hx hZ (y := (⟨"com/example/compensa/compensa/CheckDigitsGeneralDigitPinLaw", "dg", "(JI)C"⟩ : MethodName)) hown (hw _ (List.mem_of_getElem? (i := 1) rfl)) (hw _ (List.mem_of_getElem? (i := 2) rfl)) (hw _ (List.mem_of_getElem? (i := 3) rfl)) (hw _ (List.mem_of_getElem? (i := 4) rfl)) (by decide) (c_dg l Z a0 hw i1 (9 : Int32) h50) e50 (argsL := [(.long i1), (.int (9 : Int32))]) (rest := [(.int (25 : Int32)), (.ref a1)]) (g := (mkF m 272 #[.val (.long i0), .second, .val (.long i1), .second, .val (.long i2), .second, .val (.int i3), .val (.ref a1), .unset, .unset, .unset, .unset] [(.int (9 : Int32)), (.long i1), (.int (25 : Int32)), (.ref a1)])) rfl (by rw [hml]; rfl) (ps := [.long, .int]) (r := (some .char)) (by decide +kernel) rfl rfl (W := 2) (by show 2 * 0 + _ ≤ _; exact Nat.le_of_eq rfl) (hb hby at_272) (by decide) (by decide) (by decide) (by decide)
  have N51 := Fr.app N50 (Fr.nil n0)
  refine own_go st51 ?_
  show own_G p e below _ T51 (mkF m 275 #[.val (.long i0), .second, .val (.long i1), .second, .val (.long i2), .second, .val (.int i3), .val (.ref a1), .unset, .unset, .unset, .unset] [(.int (own_dg i1 (9 : Int32))), (.int (25 : Int32)), (.ref a1)])
  obtain ⟨T52, h52, X52, e52, W52, st52⟩ := stC X51 hx hZ q51 A50 (j := (25 : Int32)) (own_in (n := 44) rfl (by decide)) (g := (mkF m 275 #[.val (.long i0), .second, .val (.long i1), .second, .val (.long i2), .second, .val (.int i3), .val (.ref a1), .unset, .unset, .unset, .unset] [(.int (own_dg i1 (9 : Int32))), (.int (25 : Int32)), (.ref a1)])) rfl rfl (hb hby at_275)
  have A52 : Arr Z h52 a1 (own_cell c1 #[(.int (nar .char (own_dg i0 (0 : Int32)))), (.int (nar .char (own_dg i0 (1 : Int32)))), (.int (nar .char (own_dg i0 (2 : Int32)))), (.int (nar .char (own_dg i0 (3 : Int32)))), (.int (nar .char (i3 &&& (255 : Int32)).toUInt32.toUInt16.toUInt32.toInt32)), (.int (nar .char (own_dg i0 (5 : Int32)))), (.int (nar .char (own_dg i0 (6 : Int32)))), (.int (nar .char (own_dg i0 (7 : Int32)))), (.int (nar .char (own_dg i0 (8 : Int32)))), (.int (nar .char (own_dg i0 (9 : Int32)))), (.int (nar .char (own_dg i0 (10 : Int32)))), (.int (nar .char (own_dg i0 (11 : Int32)))), (.int (nar .char (own_dg i0 (12 : Int32)))), (.int (nar .char (own_dg i0 (13 : Int32)))), (.int (nar .char (own_dg i0 (14 : Int32)))), (.int (nar .char (own_dg i0 (15 : Int32)))), (.int (nar .char (own_dg i1 (0 : Int32)))), (.int (nar .char (own_dg i1 (1 : Int32)))), (.int (nar .char (own_dg i1 (2 : Int32)))), (.int (nar .char (own_dg i1 (3 : Int32)))), (.int (nar .char (own_dg i1 (4 : Int32)))), (.int (nar .char (own_dg i1 (5 : Int32)))), (.int (nar .char (own_dg i1 (6 : Int32)))), (.int (nar .char (own_dg i1 (7 : Int32)))), (.int (nar .char (own_dg i1 (8 : Int32)))), (.int (nar .char (own_dg i1 (9 : Int32)))), (.int 0), (.int 0), (.int 0), (.int 0), (.int 0), (.int 0), (.int 0), (.int 0), (.int 0), (.int 0), (.int 0), (.int 0), (.int 0), (.int 0), (.int 0), (.int 0), (.int 0), (.int 0)]) .char := A50.same W52
  have x52 : Ext h0 h52 := own_ext_wr x50 W52 j1
  have N52 := Fr.snoc X52 N51 (Nat.le_trans Z0 j1)
  refine own_go st52 ?_
  show own_G p e below _ T52 (mkF m 276 #[.val (.long i0), .second, .val (.long i1), .second, .val (.long i2), .second, .val (.int i3), .val (.ref a1), .unset, .unset, .unset, .unset] [])
  refine own_go (fun t k => XS.aload X52.here hx rfl (hb hby at_276) rfl rfl k) ?_
  show own_G p e below _ T52 (mkF m 278 #[.val (.long i0), .second, .val (.long i1), .second, .val (.long i2), .second, .val (.int i3), .val (.ref a1), .unset, .unset, .unset, .unset] [(.ref a1)])
  refine own_go (fun t k => XS.bipush X52.here hx rfl (hb hby at_278) k) ?_
  show own_G p e below _ T52 (mkF m 280 #[.val (.long i0), .second, .val (.long i1), .second, .val (.long i2), .second, .val (.int i3), .val (.ref a1), .unset, .unset, .unset, .unset] [(.int (26 : Int32)), (.ref a1)])
  refine own_go (fun t k => XT.lloadN X52.here hx rfl (hb hby at_280) rfl k) ?_
  show own_G p e below _ T52 (mkF m 281 #[.val (.long i0), .second, .val (.long i1), .second, .val (.long i2), .second, .val (.int i3), .val (.ref a1), .unset, .unset, .unset, .unset] [(.long i1), (.int (26 : Int32)), (.ref a1)])
  refine own_go (fun t k => XS.bipush X52.here hx rfl (hb hby at_281) k) ?_
  show own_G p e below _ T52 (mkF m 283 #[.val (.long i0), .second, .val (.long i1), .second, .val (.long i2), .second, .val (.int i3), .val (.ref a1), .unset, .unset, .unset, .unset] [(.int (10 : Int32)), (.long i1), (.int (26 : Int32)), (.ref a1)])
  obtain ⟨T53, L53, v53, X53, ⟨rfl, rfl, q53⟩, st53⟩ := own_callS X52 hx hZ (y := (⟨"com/example/compensa/compensa/CheckDigitsGeneralDigitPinLaw", "dg", "(JI)C"⟩ : MethodName)) hown (hw _ (List.mem_of_getElem? (i := 1) rfl)) (hw _ (List.mem_of_getElem? (i := 2) rfl)) (hw _ (List.mem_of_getElem? (i := 3) rfl)) (hw _ (List.mem_of_getElem? (i := 4) rfl)) (by decide) (c_dg l Z a0 hw i1 (10 : Int32) h52) e52 (argsL := [(.long i1), (.int (10 : Int32))]) (rest := [(.int (26 : Int32)), (.ref a1)]) (g := (mkF m 283 #[.val (.long i0), .second, .val (.long i1), .second, .val (.long i2), .second, .val (.int i3), .val (.ref a1), .unset, .unset, .unset, .unset] [(.int (10 : Int32)), (.long i1), (.int (26 : Int32)), (.ref a1)])) rfl (by rw [hml]; rfl) (ps := [.long, .int]) (r := (some .char)) (by decide +kernel) rfl rfl (W := 2) (by show 2 * 0 + _ ≤ _; exact Nat.le_of_eq rfl) (hb hby at_283) (by decide) (by decide) (by decide) (by decide)
  have N53 := Fr.app N52 (Fr.nil n0)
  refine own_go st53 ?_
  show own_G p e below _ T53 (mkF m 286 #[.val (.long i0), .second, .val (.long i1), .second, .val (.long i2), .second, .val (.int i3), .val (.ref a1), .unset, .unset, .unset, .unset] [(.int (own_dg i1 (10 : Int32))), (.int (26 : Int32)), (.ref a1)])
  obtain ⟨T54, h54, X54, e54, W54, st54⟩ := stC X53 hx hZ q53 A52 (j := (26 : Int32)) (own_in (n := 44) rfl (by decide)) (g := (mkF m 286 #[.val (.long i0), .second, .val (.long i1), .second, .val (.long i2), .second, .val (.int i3), .val (.ref a1), .unset, .unset, .unset, .unset] [(.int (own_dg i1 (10 : Int32))), (.int (26 : Int32)), (.ref a1)])) rfl rfl (hb hby at_286)
  have A54 : Arr Z h54 a1 (own_cell c1 #[(.int (nar .char (own_dg i0 (0 : Int32)))), (.int (nar .char (own_dg i0 (1 : Int32)))), (.int (nar .char (own_dg i0 (2 : Int32)))), (.int (nar .char (own_dg i0 (3 : Int32)))), (.int (nar .char (i3 &&& (255 : Int32)).toUInt32.toUInt16.toUInt32.toInt32)), (.int (nar .char (own_dg i0 (5 : Int32)))), (.int (nar .char (own_dg i0 (6 : Int32)))), (.int (nar .char (own_dg i0 (7 : Int32)))), (.int (nar .char (own_dg i0 (8 : Int32)))), (.int (nar .char (own_dg i0 (9 : Int32)))), (.int (nar .char (own_dg i0 (10 : Int32)))), (.int (nar .char (own_dg i0 (11 : Int32)))), (.int (nar .char (own_dg i0 (12 : Int32)))), (.int (nar .char (own_dg i0 (13 : Int32)))), (.int (nar .char (own_dg i0 (14 : Int32)))), (.int (nar .char (own_dg i0 (15 : Int32)))), (.int (nar .char (own_dg i1 (0 : Int32)))), (.int (nar .char (own_dg i1 (1 : Int32)))), (.int (nar .char (own_dg i1 (2 : Int32)))), (.int (nar .char (own_dg i1 (3 : Int32)))), (.int (nar .char (own_dg i1 (4 : Int32)))), (.int (nar .char (own_dg i1 (5 : Int32)))), (.int (nar .char (own_dg i1 (6 : Int32)))), (.int (nar .char (own_dg i1 (7 : Int32)))), (.int (nar .char (own_dg i1 (8 : Int32)))), (.int (nar .char (own_dg i1 (9 : Int32)))), (.int (nar .char (own_dg i1 (10 : Int32)))), (.int 0), (.int 0), (.int 0), (.int 0), (.int 0), (.int 0), (.int 0), (.int 0), (.int 0), (.int 0), (.int 0), (.int 0), (.int 0), (.int 0), (.int 0), (.int 0), (.int 0)]) .char := A52.same W54
  have x54 : Ext h0 h54 := own_ext_wr x52 W54 j1
  have N54 := Fr.snoc X54 N53 (Nat.le_trans Z0 j1)
  refine own_go st54 ?_
  show own_G p e below _ T54 (mkF m 287 #[.val (.long i0), .second, .val (.long i1), .second, .val (.long i2), .second, .val (.int i3), .val (.ref a1), .unset, .unset, .unset, .unset] [])
  refine own_go (fun t k => XS.aload X54.here hx rfl (hb hby at_287) rfl rfl k) ?_
  show own_G p e below _ T54 (mkF m 289 #[.val (.long i0), .second, .val (.long i1), .second, .val (.long i2), .second, .val (.int i3), .val (.ref a1), .unset, .unset, .unset, .unset] [(.ref a1)])
  refine own_go (fun t k => XS.bipush X54.here hx rfl (hb hby at_289) k) ?_
  show own_G p e below _ T54 (mkF m 291 #[.val (.long i0), .second, .val (.long i1), .second, .val (.long i2), .second, .val (.int i3), .val (.ref a1), .unset, .unset, .unset, .unset] [(.int (27 : Int32)), (.ref a1)])
  refine own_go (fun t k => XT.lloadN X54.here hx rfl (hb hby at_291) rfl k) ?_
  show own_G p e below _ T54 (mkF m 292 #[.val (.long i0), .second, .val (.long i1), .second, .val (.long i2), .second, .val (.int i3), .val (.ref a1), .unset, .unset, .unset, .unset] [(.long i1), (.int (27 : Int32)), (.ref a1)])
  refine own_go (fun t k => XS.bipush X54.here hx rfl (hb hby at_292) k) ?_
  show own_G p e below _ T54 (mkF m 294 #[.val (.long i0), .second, .val (.long i1), .second, .val (.long i2), .second, .val (.int i3), .val (.ref a1), .unset, .unset, .unset, .unset] [(.int (11 : Int32)), (.long i1), (.int (27 : Int32)), (.ref a1)])
  obtain ⟨T55, L55, v55, X55, ⟨rfl, rfl, q55⟩, st55⟩ := own_callS X54 hx hZ (y := (⟨"com/example/compensa/compensa/CheckDigitsGeneralDigitPinLaw", "dg", "(JI)C"⟩ : MethodName)) hown (hw _ (List.mem_of_getElem? (i := 1) rfl)) (hw _ (List.mem_of_getElem? (i := 2) rfl)) (hw _ (List.mem_of_getElem? (i := 3) rfl)) (hw _ (List.mem_of_getElem? (i := 4) rfl)) (by decide) (c_dg l Z a0 hw i1 (11 : Int32) h54) e54 (argsL := [(.long i1), (.int (11 : Int32))]) (rest := [(.int (27 : Int32)), (.ref a1)]) (g := (mkF m 294 #[.val (.long i0), .second, .val (.long i1), .second, .val (.long i2), .second, .val (.int i3), .val (.ref a1), .unset, .unset, .unset, .unset] [(.int (11 : Int32)), (.long i1), (.int (27 : Int32)), (.ref a1)])) rfl (by rw [hml]; rfl) (ps := [.long, .int]) (r := (some .char)) (by decide +kernel) rfl rfl (W := 2) (by show 2 * 0 + _ ≤ _; exact Nat.le_of_eq rfl) (hb hby at_294) (by decide) (by decide) (by decide) (by decide)
  have N55 := Fr.app N54 (Fr.nil n0)
  refine own_go st55 ?_
  show own_G p e below _ T55 (mkF m 297 #[.val (.long i0), .second, .val (.long i1), .second, .val (.long i2), .second, .val (.int i3), .val (.ref a1), .unset, .unset, .unset, .unset] [(.int (own_dg i1 (11 : Int32))), (.int (27 : Int32)), (.ref a1)])
  obtain ⟨T56, h56, X56, e56, W56, st56⟩ := stC X55 hx hZ q55 A54 (j := (27 : Int32)) (own_in (n := 44) rfl (by decide)) (g := (mkF m 297 #[.val (.long i0), .second, .val (.long i1), .second, .val (.long i2), .second, .val (.int i3), .val (.ref a1), .unset, .unset, .unset, .unset] [(.int (own_dg i1 (11 : Int32))), (.int (27 : Int32)), (.ref a1)])) rfl rfl (hb hby at_297)
  have A56 : Arr Z h56 a1 (own_cell c1 #[(.int (nar .char (own_dg i0 (0 : Int32)))), (.int (nar .char (own_dg i0 (1 : Int32)))), (.int (nar .char (own_dg i0 (2 : Int32)))), (.int (nar .char (own_dg i0 (3 : Int32)))), (.int (nar .char (i3 &&& (255 : Int32)).toUInt32.toUInt16.toUInt32.toInt32)), (.int (nar .char (own_dg i0 (5 : Int32)))), (.int (nar .char (own_dg i0 (6 : Int32)))), (.int (nar .char (own_dg i0 (7 : Int32)))), (.int (nar .char (own_dg i0 (8 : Int32)))), (.int (nar .char (own_dg i0 (9 : Int32)))), (.int (nar .char (own_dg i0 (10 : Int32)))), (.int (nar .char (own_dg i0 (11 : Int32)))), (.int (nar .char (own_dg i0 (12 : Int32)))), (.int (nar .char (own_dg i0 (13 : Int32)))), (.int (nar .char (own_dg i0 (14 : Int32)))), (.int (nar .char (own_dg i0 (15 : Int32)))), (.int (nar .char (own_dg i1 (0 : Int32)))), (.int (nar .char (own_dg i1 (1 : Int32)))), (.int (nar .char (own_dg i1 (2 : Int32)))), (.int (nar .char (own_dg i1 (3 : Int32)))), (.int (nar .char (own_dg i1 (4 : Int32)))), (.int (nar .char (own_dg i1 (5 : Int32)))), (.int (nar .char (own_dg i1 (6 : Int32)))), (.int (nar .char (own_dg i1 (7 : Int32)))), (.int (nar .char (own_dg i1 (8 : Int32)))), (.int (nar .char (own_dg i1 (9 : Int32)))), (.int (nar .char (own_dg i1 (10 : Int32)))), (.int (nar .char (own_dg i1 (11 : Int32)))), (.int 0), (.int 0), (.int 0), (.int 0), (.int 0), (.int 0), (.int 0), (.int 0), (.int 0), (.int 0), (.int 0), (.int 0), (.int 0), (.int 0), (.int 0), (.int 0)]) .char := A54.same W56
  have x56 : Ext h0 h56 := own_ext_wr x54 W56 j1
  have N56 := Fr.snoc X56 N55 (Nat.le_trans Z0 j1)
  refine own_go st56 ?_
  show own_G p e below _ T56 (mkF m 298 #[.val (.long i0), .second, .val (.long i1), .second, .val (.long i2), .second, .val (.int i3), .val (.ref a1), .unset, .unset, .unset, .unset] [])
  refine own_go (fun t k => XS.aload X56.here hx rfl (hb hby at_298) rfl rfl k) ?_
  show own_G p e below _ T56 (mkF m 300 #[.val (.long i0), .second, .val (.long i1), .second, .val (.long i2), .second, .val (.int i3), .val (.ref a1), .unset, .unset, .unset, .unset] [(.ref a1)])
  refine own_go (fun t k => XS.bipush X56.here hx rfl (hb hby at_300) k) ?_
  show own_G p e below _ T56 (mkF m 302 #[.val (.long i0), .second, .val (.long i1), .second, .val (.long i2), .second, .val (.int i3), .val (.ref a1), .unset, .unset, .unset, .unset] [(.int (28 : Int32)), (.ref a1)])
  refine own_go (fun t k => XT.lloadN X56.here hx rfl (hb hby at_302) rfl k) ?_
  show own_G p e below _ T56 (mkF m 303 #[.val (.long i0), .second, .val (.long i1), .second, .val (.long i2), .second, .val (.int i3), .val (.ref a1), .unset, .unset, .unset, .unset] [(.long i1), (.int (28 : Int32)), (.ref a1)])
  refine own_go (fun t k => XS.bipush X56.here hx rfl (hb hby at_303) k) ?_
  show own_G p e below _ T56 (mkF m 305 #[.val (.long i0), .second, .val (.long i1), .second, .val (.long i2), .second, .val (.int i3), .val (.ref a1), .unset, .unset, .unset, .unset] [(.int (12 : Int32)), (.long i1), (.int (28 : Int32)), (.ref a1)])
  obtain ⟨T57, L57, v57, X57, ⟨rfl, rfl, q57⟩, st57⟩ := own_callS X56 hx hZ (y := (⟨"com/example/compensa/compensa/CheckDigitsGeneralDigitPinLaw", "dg", "(JI)C"⟩ : MethodName)) hown (hw _ (List.mem_of_getElem? (i := 1) rfl)) (hw _ (List.mem_of_getElem? (i := 2) rfl)) (hw _ (List.mem_of_getElem? (i := 3) rfl)) (hw _ (List.mem_of_getElem? (i := 4) rfl)) (by decide) (c_dg l Z a0 hw i1 (12 : Int32) h56) e56 (argsL := [(.long i1), (.int (12 : Int32))]) (rest := [(.int (28 : Int32)), (.ref a1)]) (g := (mkF m 305 #[.val (.long i0), .second, .val (.long i1), .second, .val (.long i2), .second, .val (.int i3), .val (.ref a1), .unset, .unset, .unset, .unset] [(.int (12 : Int32)), (.long i1), (.int (28 : Int32)), (.ref a1)])) rfl (by rw [hml]; rfl) (ps := [.long, .int]) (r := (some .char)) (by decide +kernel) rfl rfl (W := 2) (by show 2 * 0 + _ ≤ _; exact Nat.le_of_eq rfl) (hb hby at_305) (by decide) (by decide) (by decide) (by decide)
  have N57 := Fr.app N56 (Fr.nil n0)
  refine own_go st57 ?_
  show own_G p e below _ T57 (mkF m 308 #[.val (.long i0), .second, .val (.long i1), .second, .val (.long i2), .second, .val (.int i3), .val (.ref a1), .unset, .unset, .unset, .unset] [(.int (own_dg i1 (12 : Int32))), (.int (28 : Int32)), (.ref a1)])
  obtain ⟨T58, h58, X58, e58, W58, st58⟩ := stC X57 hx hZ q57 A56 (j := (28 : Int32)) (own_in (n := 44) rfl (by decide)) (g := (mkF m 308 #[.val (.long i0), .second, .val (.long i1), .second, .val (.long i2), .second, .val (.int i3), .val (.ref a1), .unset, .unset, .unset, .unset] [(.int (own_dg i1 (12 : Int32))), (.int (28 : Int32)), (.ref a1)])) rfl rfl (hb hby at_308)
  have A58 : Arr Z h58 a1 (own_cell c1 #[(.int (nar .char (own_dg i0 (0 : Int32)))), (.int (nar .char (own_dg i0 (1 : Int32)))), (.int (nar .char (own_dg i0 (2 : Int32)))), (.int (nar .char (own_dg i0 (3 : Int32)))), (.int (nar .char (i3 &&& (255 : Int32)).toUInt32.toUInt16.toUInt32.toInt32)), (.int (nar .char (own_dg i0 (5 : Int32)))), (.int (nar .char (own_dg i0 (6 : Int32)))), (.int (nar .char (own_dg i0 (7 : Int32)))), (.int (nar .char (own_dg i0 (8 : Int32)))), (.int (nar .char (own_dg i0 (9 : Int32)))), (.int (nar .char (own_dg i0 (10 : Int32)))), (.int (nar .char (own_dg i0 (11 : Int32)))), (.int (nar .char (own_dg i0 (12 : Int32)))), (.int (nar .char (own_dg i0 (13 : Int32)))), (.int (nar .char (own_dg i0 (14 : Int32)))), (.int (nar .char (own_dg i0 (15 : Int32)))), (.int (nar .char (own_dg i1 (0 : Int32)))), (.int (nar .char (own_dg i1 (1 : Int32)))), (.int (nar .char (own_dg i1 (2 : Int32)))), (.int (nar .char (own_dg i1 (3 : Int32)))), (.int (nar .char (own_dg i1 (4 : Int32)))), (.int (nar .char (own_dg i1 (5 : Int32)))), (.int (nar .char (own_dg i1 (6 : Int32)))), (.int (nar .char (own_dg i1 (7 : Int32)))), (.int (nar .char (own_dg i1 (8 : Int32)))), (.int (nar .char (own_dg i1 (9 : Int32)))), (.int (nar .char (own_dg i1 (10 : Int32)))), (.int (nar .char (own_dg i1 (11 : Int32)))), (.int (nar .char (own_dg i1 (12 : Int32)))), (.int 0), (.int 0), (.int 0), (.int 0), (.int 0), (.int 0), (.int 0), (.int 0), (.int 0), (.int 0), (.int 0), (.int 0), (.int 0), (.int 0), (.int 0)]) .char := A56.same W58
  have x58 : Ext h0 h58 := own_ext_wr x56 W58 j1
  have N58 := Fr.snoc X58 N57 (Nat.le_trans Z0 j1)
  refine own_go st58 ?_
  show own_G p e below _ T58 (mkF m 309 #[.val (.long i0), .second, .val (.long i1), .second, .val (.long i2), .second, .val (.int i3), .val (.ref a1), .unset, .unset, .unset, .unset] [])
  refine own_go (fun t k => XS.aload X58.here hx rfl (hb hby at_309) rfl rfl k) ?_
  show own_G p e below _ T58 (mkF m 311 #[.val (.long i0), .second, .val (.long i1), .second, .val (.long i2), .second, .val (.int i3), .val (.ref a1), .unset, .unset, .unset, .unset] [(.ref a1)])
  refine own_go (fun t k => XS.bipush X58.here hx rfl (hb hby at_311) k) ?_
  show own_G p e below _ T58 (mkF m 313 #[.val (.long i0), .second, .val (.long i1), .second, .val (.long i2), .second, .val (.int i3), .val (.ref a1), .unset, .unset, .unset, .unset] [(.int (29 : Int32)), (.ref a1)])
  refine own_go (fun t k => XT.lloadN X58.here hx rfl (hb hby at_313) rfl k) ?_
  show own_G p e below _ T58 (mkF m 314 #[.val (.long i0), .second, .val (.long i1), .second, .val (.long i2), .second, .val (.int i3), .val (.ref a1), .unset, .unset, .unset, .unset] [(.long i1), (.int (29 : Int32)), (.ref a1)])
  refine own_go (fun t k => XS.bipush X58.here hx rfl (hb hby at_314) k) ?_
  show own_G p e below _ T58 (mkF m 316 #[.val (.long i0), .second, .val (.long i1), .second, .val (.long i2), .second, .val (.int i3), .val (.ref a1), .unset, .unset, .unset, .unset] [(.int (13 : Int32)), (.long i1), (.int (29 : Int32)), (.ref a1)])
  obtain ⟨T59, L59, v59, X59, ⟨rfl, rfl, q59⟩, st59⟩ := own_callS X58 hx hZ (y := (⟨"com/example/compensa/compensa/CheckDigitsGeneralDigitPinLaw", "dg", "(JI)C"⟩ : MethodName)) hown (hw _ (List.mem_of_getElem? (i := 1) rfl)) (hw _ (List.mem_of_getElem? (i := 2) rfl)) (hw _ (List.mem_of_getElem? (i := 3) rfl)) (hw _ (List.mem_of_getElem? (i := 4) rfl)) (by decide) (c_dg l Z a0 hw i1 (13 : Int32) h58) e58 (argsL := [(.long i1), (.int (13 : Int32))]) (rest := [(.int (29 : Int32)), (.ref a1)]) (g := (mkF m 316 #[.val (.long i0), .second, .val (.long i1), .second, .val (.long i2), .second, .val (.int i3), .val (.ref a1), .unset, .unset, .unset, .unset] [(.int (13 : Int32)), (.long i1), (.int (29 : Int32)), (.ref a1)])) rfl (by rw [hml]; rfl) (ps := [.long, .int]) (r := (some .char)) (by decide +kernel) rfl rfl (W := 2) (by show 2 * 0 + _ ≤ _; exact Nat.le_of_eq rfl) (hb hby at_316) (by decide) (by decide) (by decide) (by decide)
  have N59 := Fr.app N58 (Fr.nil n0)
  refine own_go st59 ?_
  show own_G p e below _ T59 (mkF m 319 #[.val (.long i0), .second, .val (.long i1), .second, .val (.long i2), .second, .val (.int i3), .val (.ref a1), .unset, .unset, .unset, .unset] [(.int (own_dg i1 (13 : Int32))), (.int (29 : Int32)), (.ref a1)])
  obtain ⟨T60, h60, X60, e60, W60, st60⟩ := stC X59 hx hZ q59 A58 (j := (29 : Int32)) (own_in (n := 44) rfl (by decide)) (g := (mkF m 319 #[.val (.long i0), .second, .val (.long i1), .second, .val (.long i2), .second, .val (.int i3), .val (.ref a1), .unset, .unset, .unset, .unset] [(.int (own_dg i1 (13 : Int32))), (.int (29 : Int32)), (.ref a1)])) rfl rfl (hb hby at_319)
  have A60 : Arr Z h60 a1 (own_cell c1 #[(.int (nar .char (own_dg i0 (0 : Int32)))), (.int (nar .char (own_dg i0 (1 : Int32)))), (.int (nar .char (own_dg i0 (2 : Int32)))), (.int (nar .char (own_dg i0 (3 : Int32)))), (.int (nar .char (i3 &&& (255 : Int32)).toUInt32.toUInt16.toUInt32.toInt32)), (.int (nar .char (own_dg i0 (5 : Int32)))), (.int (nar .char (own_dg i0 (6 : Int32)))), (.int (nar .char (own_dg i0 (7 : Int32)))), (.int (nar .char (own_dg i0 (8 : Int32)))), (.int (nar .char (own_dg i0 (9 : Int32)))), (.int (nar .char (own_dg i0 (10 : Int32)))), (.int (nar .char (own_dg i0 (11 : Int32)))), (.int (nar .char (own_dg i0 (12 : Int32)))), (.int (nar .char (own_dg i0 (13 : Int32)))), (.int (nar .char (own_dg i0 (14 : Int32)))), (.int (nar .char (own_dg i0 (15 : Int32)))), (.int (nar .char (own_dg i1 (0 : Int32)))), (.int (nar .char (own_dg i1 (1 : Int32)))), (.int (nar .char (own_dg i1 (2 : Int32)))), (.int (nar .char (own_dg i1 (3 : Int32)))), (.int (nar .char (own_dg i1 (4 : Int32)))), (.int (nar .char (own_dg i1 (5 : Int32)))), (.int (nar .char (own_dg i1 (6 : Int32)))), (.int (nar .char (own_dg i1 (7 : Int32)))), (.int (nar .char (own_dg i1 (8 : Int32)))), (.int (nar .char (own_dg i1 (9 : Int32)))), (.int (nar .char (own_dg i1 (10 : Int32)))), (.int (nar .char (own_dg i1 (11 : Int32)))), (.int (nar .char (own_dg i1 (12 : Int32)))), (.int (nar .char (own_dg i1 (13 : Int32)))), (.int 0), (.int 0), (.int 0), (.int 0), (.int 0), (.int 0), (.int 0), (.int 0), (.int 0), (.int 0), (.int 0), (.int 0), (.int 0), (.int 0)]) .char := A58.same W60
  have x60 : Ext h0 h60 := own_ext_wr x58 W60 j1
  have N60 := Fr.snoc X60 N59 (Nat.le_trans Z0 j1)
  refine own_go st60 ?_
  show own_G p e below _ T60 (mkF m 320 #[.val (.long i0), .second, .val (.long i1), .second, .val (.long i2), .second, .val (.int i3), .val (.ref a1), .unset, .unset, .unset, .unset] [])
  refine own_go (fun t k => XS.aload X60.here hx rfl (hb hby at_320) rfl rfl k) ?_
  show own_G p e below _ T60 (mkF m 322 #[.val (.long i0), .second, .val (.long i1), .second, .val (.long i2), .second, .val (.int i3), .val (.ref a1), .unset, .unset, .unset, .unset] [(.ref a1)])
  refine own_go (fun t k => XS.bipush X60.here hx rfl (hb hby at_322) k) ?_
  show own_G p e below _ T60 (mkF m 324 #[.val (.long i0), .second, .val (.long i1), .second, .val (.long i2), .second, .val (.int i3), .val (.ref a1), .unset, .unset, .unset, .unset] [(.int (30 : Int32)), (.ref a1)])
  refine own_go (fun t k => XT.lloadN X60.here hx rfl (hb hby at_324) rfl k) ?_
  show own_G p e below _ T60 (mkF m 325 #[.val (.long i0), .second, .val (.long i1), .second, .val (.long i2), .second, .val (.int i3), .val (.ref a1), .unset, .unset, .unset, .unset] [(.long i1), (.int (30 : Int32)), (.ref a1)])
  refine own_go (fun t k => XS.bipush X60.here hx rfl (hb hby at_325) k) ?_
  show own_G p e below _ T60 (mkF m 327 #[.val (.long i0), .second, .val (.long i1), .second, .val (.long i2), .second, .val (.int i3), .val (.ref a1), .unset, .unset, .unset, .unset] [(.int (14 : Int32)), (.long i1), (.int (30 : Int32)), (.ref a1)])
  obtain ⟨T61, L61, v61, X61, ⟨rfl, rfl, q61⟩, st61⟩ := own_callS X60 hx hZ (y := (⟨"com/example/compensa/compensa/CheckDigitsGeneralDigitPinLaw", "dg", "(JI)C"⟩ : MethodName)) hown (hw _ (List.mem_of_getElem? (i := 1) rfl)) (hw _ (List.mem_of_getElem? (i := 2) rfl)) (hw _ (List.mem_of_getElem? (i := 3) rfl)) (hw _ (List.mem_of_getElem? (i := 4) rfl)) (by decide) (c_dg l Z a0 hw i1 (14 : Int32) h60) e60 (argsL := [(.long i1), (.int (14 : Int32))]) (rest := [(.int (30 : Int32)), (.ref a1)]) (g := (mkF m 327 #[.val (.long i0), .second, .val (.long i1), .second, .val (.long i2), .second, .val (.int i3), .val (.ref a1), .unset, .unset, .unset, .unset] [(.int (14 : Int32)), (.long i1), (.int (30 : Int32)), (.ref a1)])) rfl (by rw [hml]; rfl) (ps := [.long, .int]) (r := (some .char)) (by decide +kernel) rfl rfl (W := 2) (by show 2 * 0 + _ ≤ _; exact Nat.le_of_eq rfl) (hb hby at_327) (by decide) (by decide) (by decide) (by decide)
  have N61 := Fr.app N60 (Fr.nil n0)
  refine own_go st61 ?_
  show own_G p e below _ T61 (mkF m 330 #[.val (.long i0), .second, .val (.long i1), .second, .val (.long i2), .second, .val (.int i3), .val (.ref a1), .unset, .unset, .unset, .unset] [(.int (own_dg i1 (14 : Int32))), (.int (30 : Int32)), (.ref a1)])
  obtain ⟨T62, h62, X62, e62, W62, st62⟩ := stC X61 hx hZ q61 A60 (j := (30 : Int32)) (own_in (n := 44) rfl (by decide)) (g := (mkF m 330 #[.val (.long i0), .second, .val (.long i1), .second, .val (.long i2), .second, .val (.int i3), .val (.ref a1), .unset, .unset, .unset, .unset] [(.int (own_dg i1 (14 : Int32))), (.int (30 : Int32)), (.ref a1)])) rfl rfl (hb hby at_330)
  have A62 : Arr Z h62 a1 (own_cell c1 #[(.int (nar .char (own_dg i0 (0 : Int32)))), (.int (nar .char (own_dg i0 (1 : Int32)))), (.int (nar .char (own_dg i0 (2 : Int32)))), (.int (nar .char (own_dg i0 (3 : Int32)))), (.int (nar .char (i3 &&& (255 : Int32)).toUInt32.toUInt16.toUInt32.toInt32)), (.int (nar .char (own_dg i0 (5 : Int32)))), (.int (nar .char (own_dg i0 (6 : Int32)))), (.int (nar .char (own_dg i0 (7 : Int32)))), (.int (nar .char (own_dg i0 (8 : Int32)))), (.int (nar .char (own_dg i0 (9 : Int32)))), (.int (nar .char (own_dg i0 (10 : Int32)))), (.int (nar .char (own_dg i0 (11 : Int32)))), (.int (nar .char (own_dg i0 (12 : Int32)))), (.int (nar .char (own_dg i0 (13 : Int32)))), (.int (nar .char (own_dg i0 (14 : Int32)))), (.int (nar .char (own_dg i0 (15 : Int32)))), (.int (nar .char (own_dg i1 (0 : Int32)))), (.int (nar .char (own_dg i1 (1 : Int32)))), (.int (nar .char (own_dg i1 (2 : Int32)))), (.int (nar .char (own_dg i1 (3 : Int32)))), (.int (nar .char (own_dg i1 (4 : Int32)))), (.int (nar .char (own_dg i1 (5 : Int32)))), (.int (nar .char (own_dg i1 (6 : Int32)))), (.int (nar .char (own_dg i1 (7 : Int32)))), (.int (nar .char (own_dg i1 (8 : Int32)))), (.int (nar .char (own_dg i1 (9 : Int32)))), (.int (nar .char (own_dg i1 (10 : Int32)))), (.int (nar .char (own_dg i1 (11 : Int32)))), (.int (nar .char (own_dg i1 (12 : Int32)))), (.int (nar .char (own_dg i1 (13 : Int32)))), (.int (nar .char (own_dg i1 (14 : Int32)))), (.int 0), (.int 0), (.int 0), (.int 0), (.int 0), (.int 0), (.int 0), (.int 0), (.int 0), (.int 0), (.int 0), (.int 0), (.int 0)]) .char := A60.same W62
  have x62 : Ext h0 h62 := own_ext_wr x60 W62 j1
  have N62 := Fr.snoc X62 N61 (Nat.le_trans Z0 j1)
  refine own_go st62 ?_
  show own_G p e below _ T62 (mkF m 331 #[.val (.long i0), .second, .val (.long i1), .second, .val (.long i2), .second, .val (.int i3), .val (.ref a1), .unset, .unset, .unset, .unset] [])
  refine own_go (fun t k => XS.aload X62.here hx rfl (hb hby at_331) rfl rfl k) ?_
  show own_G p e below _ T62 (mkF m 333 #[.val (.long i0), .second, .val (.long i1), .second, .val (.long i2), .second, .val (.int i3), .val (.ref a1), .unset, .unset, .unset, .unset] [(.ref a1)])
  refine own_go (fun t k => XS.bipush X62.here hx rfl (hb hby at_333) k) ?_
  show own_G p e below _ T62 (mkF m 335 #[.val (.long i0), .second, .val (.long i1), .second, .val (.long i2), .second, .val (.int i3), .val (.ref a1), .unset, .unset, .unset, .unset] [(.int (31 : Int32)), (.ref a1)])
  refine own_go (fun t k => XT.lloadN X62.here hx rfl (hb hby at_335) rfl k) ?_
  show own_G p e below _ T62 (mkF m 336 #[.val (.long i0), .second, .val (.long i1), .second, .val (.long i2), .second, .val (.int i3), .val (.ref a1), .unset, .unset, .unset, .unset] [(.long i1), (.int (31 : Int32)), (.ref a1)])
  refine own_go (fun t k => XS.bipush X62.here hx rfl (hb hby at_336) k) ?_
  show own_G p e below _ T62 (mkF m 338 #[.val (.long i0), .second, .val (.long i1), .second, .val (.long i2), .second, .val (.int i3), .val (.ref a1), .unset, .unset, .unset, .unset] [(.int (15 : Int32)), (.long i1), (.int (31 : Int32)), (.ref a1)])
  obtain ⟨T63, L63, v63, X63, ⟨rfl, rfl, q63⟩, st63⟩ := own_callS X62 hx hZ (y := (⟨"com/example/compensa/compensa/CheckDigitsGeneralDigitPinLaw", "dg", "(JI)C"⟩ : MethodName)) hown (hw _ (List.mem_of_getElem? (i := 1) rfl)) (hw _ (List.mem_of_getElem? (i := 2) rfl)) (hw _ (List.mem_of_getElem? (i := 3) rfl)) (hw _ (List.mem_of_getElem? (i := 4) rfl)) (by decide) (c_dg l Z a0 hw i1 (15 : Int32) h62) e62 (argsL := [(.long i1), (.int (15 : Int32))]) (rest := [(.int (31 : Int32)), (.ref a1)]) (g := (mkF m 338 #[.val (.long i0), .second, .val (.long i1), .second, .val (.long i2), .second, .val (.int i3), .val (.ref a1), .unset, .unset, .unset, .unset] [(.int (15 : Int32)), (.long i1), (.int (31 : Int32)), (.ref a1)])) rfl (by rw [hml]; rfl) (ps := [.long, .int]) (r := (some .char)) (by decide +kernel) rfl rfl (W := 2) (by show 2 * 0 + _ ≤ _; exact Nat.le_of_eq rfl) (hb hby at_338) (by decide) (by decide) (by decide) (by decide)
  have N63 := Fr.app N62 (Fr.nil n0)
  refine own_go st63 ?_
  show own_G p e below _ T63 (mkF m 341 #[.val (.long i0), .second, .val (.long i1), .second, .val (.long i2), .second, .val (.int i3), .val (.ref a1), .unset, .unset, .unset, .unset] [(.int (own_dg i1 (15 : Int32))), (.int (31 : Int32)), (.ref a1)])
  obtain ⟨T64, h64, X64, e64, W64, st64⟩ := stC X63 hx hZ q63 A62 (j := (31 : Int32)) (own_in (n := 44) rfl (by decide)) (g := (mkF m 341 #[.val (.long i0), .second, .val (.long i1), .second, .val (.long i2), .second, .val (.int i3), .val (.ref a1), .unset, .unset, .unset, .unset] [(.int (own_dg i1 (15 : Int32))), (.int (31 : Int32)), (.ref a1)])) rfl rfl (hb hby at_341)
  have A64 : Arr Z h64 a1 (own_cell c1 #[(.int (nar .char (own_dg i0 (0 : Int32)))), (.int (nar .char (own_dg i0 (1 : Int32)))), (.int (nar .char (own_dg i0 (2 : Int32)))), (.int (nar .char (own_dg i0 (3 : Int32)))), (.int (nar .char (i3 &&& (255 : Int32)).toUInt32.toUInt16.toUInt32.toInt32)), (.int (nar .char (own_dg i0 (5 : Int32)))), (.int (nar .char (own_dg i0 (6 : Int32)))), (.int (nar .char (own_dg i0 (7 : Int32)))), (.int (nar .char (own_dg i0 (8 : Int32)))), (.int (nar .char (own_dg i0 (9 : Int32)))), (.int (nar .char (own_dg i0 (10 : Int32)))), (.int (nar .char (own_dg i0 (11 : Int32)))), (.int (nar .char (own_dg i0 (12 : Int32)))), (.int (nar .char (own_dg i0 (13 : Int32)))), (.int (nar .char (own_dg i0 (14 : Int32)))), (.int (nar .char (own_dg i0 (15 : Int32)))), (.int (nar .char (own_dg i1 (0 : Int32)))), (.int (nar .char (own_dg i1 (1 : Int32)))), (.int (nar .char (own_dg i1 (2 : Int32)))), (.int (nar .char (own_dg i1 (3 : Int32)))), (.int (nar .char (own_dg i1 (4 : Int32)))), (.int (nar .char (own_dg i1 (5 : Int32)))), (.int (nar .char (own_dg i1 (6 : Int32)))), (.int (nar .char (own_dg i1 (7 : Int32)))), (.int (nar .char (own_dg i1 (8 : Int32)))), (.int (nar .char (own_dg i1 (9 : Int32)))), (.int (nar .char (own_dg i1 (10 : Int32)))), (.int (nar .char (own_dg i1 (11 : Int32)))), (.int (nar .char (own_dg i1 (12 : Int32)))), (.int (nar .char (own_dg i1 (13 : Int32)))), (.int (nar .char (own_dg i1 (14 : Int32)))), (.int (nar .char (own_dg i1 (15 : Int32)))), (.int 0), (.int 0), (.int 0), (.int 0), (.int 0), (.int 0), (.int 0), (.int 0), (.int 0), (.int 0), (.int 0), (.int 0)]) .char := A62.same W64
  have x64 : Ext h0 h64 := own_ext_wr x62 W64 j1
  have N64 := Fr.snoc X64 N63 (Nat.le_trans Z0 j1)
  refine own_go st64 ?_
  show own_G p e below _ T64 (mkF m 342 #[.val (.long i0), .second, .val (.long i1), .second, .val (.long i2), .second, .val (.int i3), .val (.ref a1), .unset, .unset, .unset, .unset] [])
  refine own_go (fun t k => XS.aload X64.here hx rfl (hb hby at_342) rfl rfl k) ?_
  show own_G p e below _ T64 (mkF m 344 #[.val (.long i0), .second, .val (.long i1), .second, .val (.long i2), .second, .val (.int i3), .val (.ref a1), .unset, .unset, .unset, .unset] [(.ref a1)])
  refine own_go (fun t k => XS.bipush X64.here hx rfl (hb hby at_344) k) ?_
  show own_G p e below _ T64 (mkF m 346 #[.val (.long i0), .second, .val (.long i1), .second, .val (.long i2), .second, .val (.int i3), .val (.ref a1), .unset, .unset, .unset, .unset] [(.int (32 : Int32)), (.ref a1)])
  refine own_go (fun t k => XT.lload X64.here hx rfl (hb hby at_346) rfl k) ?_
  show own_G p e below _ T64 (mkF m 348 #[.val (.long i0), .second, .val (.long i1), .second, .val (.long i2), .second, .val (.int i3), .val (.ref a1), .unset, .unset, .unset, .unset] [(.long i2), (.int (32 : Int32)), (.ref a1)])
  refine own_go (fun t k => XS.iconst X64.here hx rfl (hb hby at_348) k) ?_
  show own_G p e below _ T64 (mkF m 349 #[.val (.long i0), .second, .val (.long i1), .second, .val (.long i2), .second, .val (.int i3), .val (.ref a1), .unset, .unset, .unset, .unset] [(.int (0 : Int32)), (.long i2), (.int (32 : Int32)), (.ref a1)])
  obtain ⟨T65, L65, v65, X65, ⟨rfl, rfl, q65⟩, st65⟩ := own_callS X64 hx hZ (y := (⟨"com/example/compensa/compensa/CheckDigitsGeneralDigitPinLaw", "dg", "(JI)C"⟩ : MethodName)) hown (hw _ (List.mem_of_getElem? (i := 1) rfl)) (hw _ (List.mem_of_getElem? (i := 2) rfl)) (hw _ (List.mem_of_getElem? (i := 3) rfl)) (hw _ (List.mem_of_getElem? (i := 4) rfl)) (by decide) (c_dg l Z a0 hw i2 (0 : Int32) h64) e64 (argsL := [(.long i2), (.int (0 : Int32))]) (rest := [(.int (32 : Int32)), (.ref a1)]) (g := (mkF m 349 #[.val (.long i0), .second, .val (.long i1), .second, .val (.long i2), .second, .val (.int i3), .val (.ref a1), .unset, .unset, .unset, .unset] [(.int (0 : Int32)), (.long i2), (.int (32 : Int32)), (.ref a1)])) rfl (by rw [hml]; rfl) (ps := [.long, .int]) (r := (some .char)) (by decide +kernel) rfl rfl (W := 2) (by show 2 * 0 + _ ≤ _; exact Nat.le_of_eq rfl) (hb hby at_349) (by decide) (by decide) (by decide) (by decide)
  have N65 := Fr.app N64 (Fr.nil n0)
  refine own_go st65 ?_
  show own_G p e below _ T65 (mkF m 352 #[.val (.long i0), .second, .val (.long i1), .second, .val (.long i2), .second, .val (.int i3), .val (.ref a1), .unset, .unset, .unset, .unset] [(.int (own_dg i2 (0 : Int32))), (.int (32 : Int32)), (.ref a1)])
  obtain ⟨T66, h66, X66, e66, W66, st66⟩ := stC X65 hx hZ q65 A64 (j := (32 : Int32)) (own_in (n := 44) rfl (by decide)) (g := (mkF m 352 #[.val (.long i0), .second, .val (.long i1), .second, .val (.long i2), .second, .val (.int i3), .val (.ref a1), .unset, .unset, .unset, .unset] [(.int (own_dg i2 (0 : Int32))), (.int (32 : Int32)), (.ref a1)])) rfl rfl (hb hby at_352)
  have A66 : Arr Z h66 a1 (own_cell c1 #[(.int (nar .char (own_dg i0 (0 : Int32)))), (.int (nar .char (own_dg i0 (1 : Int32)))), (.int (nar .char (own_dg i0 (2 : Int32)))), (.int (nar .char (own_dg i0 (3 : Int32)))), (.int (nar .char (i3 &&& (255 : Int32)).toUInt32.toUInt16.toUInt32.toInt32)), (.int (nar .char (own_dg i0 (5 : Int32)))), (.int (nar .char (own_dg i0 (6 : Int32)))), (.int (nar .char (own_dg i0 (7 : Int32)))), (.int (nar .char (own_dg i0 (8 : Int32)))), (.int (nar .char (own_dg i0 (9 : Int32)))), (.int (nar .char (own_dg i0 (10 : Int32)))), (.int (nar .char (own_dg i0 (11 : Int32)))), (.int (nar .char (own_dg i0 (12 : Int32)))), (.int (nar .char (own_dg i0 (13 : Int32)))), (.int (nar .char (own_dg i0 (14 : Int32)))), (.int (nar .char (own_dg i0 (15 : Int32)))), (.int (nar .char (own_dg i1 (0 : Int32)))), (.int (nar .char (own_dg i1 (1 : Int32)))), (.int (nar .char (own_dg i1 (2 : Int32)))), (.int (nar .char (own_dg i1 (3 : Int32)))), (.int (nar .char (own_dg i1 (4 : Int32)))), (.int (nar .char (own_dg i1 (5 : Int32)))), (.int (nar .char (own_dg i1 (6 : Int32)))), (.int (nar .char (own_dg i1 (7 : Int32)))), (.int (nar .char (own_dg i1 (8 : Int32)))), (.int (nar .char (own_dg i1 (9 : Int32)))), (.int (nar .char (own_dg i1 (10 : Int32)))), (.int (nar .char (own_dg i1 (11 : Int32)))), (.int (nar .char (own_dg i1 (12 : Int32)))), (.int (nar .char (own_dg i1 (13 : Int32)))), (.int (nar .char (own_dg i1 (14 : Int32)))), (.int (nar .char (own_dg i1 (15 : Int32)))), (.int (nar .char (own_dg i2 (0 : Int32)))), (.int 0), (.int 0), (.int 0), (.int 0), (.int 0), (.int 0), (.int 0), (.int 0), (.int 0), (.int 0), (.int 0)]) .char := A64.same W66
  have x66 : Ext h0 h66 := own_ext_wr x64 W66 j1
  have N66 := Fr.snoc X66 N65 (Nat.le_trans Z0 j1)
  refine own_go st66 ?_
  show own_G p e below _ T66 (mkF m 353 #[.val (.long i0), .second, .val (.long i1), .second, .val (.long i2), .second, .val (.int i3), .val (.ref a1), .unset, .unset, .unset, .unset] [])
  refine own_go (fun t k => XS.aload X66.here hx rfl (hb hby at_353) rfl rfl k) ?_
  show own_G p e below _ T66 (mkF m 355 #[.val (.long i0), .second, .val (.long i1), .second, .val (.long i2), .second, .val (.int i3), .val (.ref a1), .unset, .unset, .unset, .unset] [(.ref a1)])
  refine own_go (fun t k => XS.bipush X66.here hx rfl (hb hby at_355) k) ?_
  show own_G p e below _ T66 (mkF m 357 #[.val (.long i0), .second, .val (.long i1), .second, .val (.long i2), .second, .val (.int i3), .val (.ref a1), .unset, .unset, .unset, .unset] [(.int (33 : Int32)), (.ref a1)])
  refine own_go (fun t k => XT.lload X66.here hx rfl (hb hby at_357) rfl k) ?_
  show own_G p e below _ T66 (mkF m 359 #[.val (.long i0), .second, .val (.long i1), .second, .val (.long i2), .second, .val (.int i3), .val (.ref a1), .unset, .unset, .unset, .unset] [(.long i2), (.int (33 : Int32)), (.ref a1)])
  refine own_go (fun t k => XS.iconst X66.here hx rfl (hb hby at_359) k) ?_
  show own_G p e below _ T66 (mkF m 360 #[.val (.long i0), .second, .val (.long i1), .second, .val (.long i2), .second, .val (.int i3), .val (.ref a1), .unset, .unset, .unset, .unset] [(.int (1 : Int32)), (.long i2), (.int (33 : Int32)), (.ref a1)])
  obtain ⟨T67, L67, v67, X67, ⟨rfl, rfl, q67⟩, st67⟩ := own_callS X66 hx hZ (y := (⟨"com/example/compensa/compensa/CheckDigitsGeneralDigitPinLaw", "dg", "(JI)C"⟩ : MethodName)) hown (hw _ (List.mem_of_getElem? (i := 1) rfl)) (hw _ (List.mem_of_getElem? (i := 2) rfl)) (hw _ (List.mem_of_getElem? (i := 3) rfl)) (hw _ (List.mem_of_getElem? (i := 4) rfl)) (by decide) (c_dg l Z a0 hw i2 (1 : Int32) h66) e66 (argsL := [(.long i2), (.int (1 : Int32))]) (rest := [(.int (33 : Int32)), (.ref a1)]) (g := (mkF m 360 #[.val (.long i0), .second, .val (.long i1), .second, .val (.long i2), .second, .val (.int i3), .val (.ref a1), .unset, .unset, .unset, .unset] [(.int (1 : Int32)), (.long i2), (.int (33 : Int32)), (.ref a1)])) rfl (by rw [hml]; rfl) (ps := [.long, .int]) (r := (some .char)) (by decide +kernel) rfl rfl (W := 2) (by show 2 * 0 + _ ≤ _; exact Nat.le_of_eq rfl) (hb hby at_360) (by decide) (by decide) (by decide) (by decide)
  have N67 := Fr.app N66 (Fr.nil n0)
  refine own_go st67 ?_
  show own_G p e below _ T67 (mkF m 363 #[.val (.long i0), .second, .val (.long i1), .second, .val (.long i2), .second, .val (.int i3), .val (.ref a1), .unset, .unset, .unset, .unset] [(.int (own_dg i2 (1 : Int32))), (.int (33 : Int32)), (.ref a1)])
  obtain ⟨T68, h68, X68, e68, W68, st68⟩ := stC X67 hx hZ q67 A66 (j := (33 : Int32)) (own_in (n := 44) rfl (by decide)) (g := (mkF m 363 #[.val (.long i0), .second, .val (.long i1), .second, .val (.long i2), .second, .val (.int i3), .val (.ref a1), .unset, .unset, .unset, .unset] [(.int (own_dg i2 (1 : Int32))), (.int (33 : Int32)), (.ref a1)])) rfl rfl (hb hby at_363)
  have A68 : Arr Z h68 a1 (own_cell c1 #[(.int (nar .char (own_dg i0 (0 : Int32)))), (.int (nar .char (own_dg i0 (1 : Int32)))), (.int (nar .char (own_dg i0 (2 : Int32)))), (.int (nar .char (own_dg i0 (3 : Int32)))), (.int (nar .char (i3 &&& (255 : Int32)).toUInt32.toUInt16.toUInt32.toInt32)), (.int (nar .char (own_dg i0 (5 : Int32)))), (.int (nar .char (own_dg i0 (6 : Int32)))), (.int (nar .char (own_dg i0 (7 : Int32)))), (.int (nar .char (own_dg i0 (8 : Int32)))), (.int (nar .char (own_dg i0 (9 : Int32)))), (.int (nar .char (own_dg i0 (10 : Int32)))), (.int (nar .char (own_dg i0 (11 : Int32)))), (.int (nar .char (own_dg i0 (12 : Int32)))), (.int (nar .char (own_dg i0 (13 : Int32)))), (.int (nar .char (own_dg i0 (14 : Int32)))), (.int (nar .char (own_dg i0 (15 : Int32)))), (.int (nar .char (own_dg i1 (0 : Int32)))), (.int (nar .char (own_dg i1 (1 : Int32)))), (.int (nar .char (own_dg i1 (2 : Int32)))), (.int (nar .char (own_dg i1 (3 : Int32)))), (.int (nar .char (own_dg i1 (4 : Int32)))), (.int (nar .char (own_dg i1 (5 : Int32)))), (.int (nar .char (own_dg i1 (6 : Int32)))), (.int (nar .char (own_dg i1 (7 : Int32)))), (.int (nar .char (own_dg i1 (8 : Int32)))), (.int (nar .char (own_dg i1 (9 : Int32)))), (.int (nar .char (own_dg i1 (10 : Int32)))), (.int (nar .char (own_dg i1 (11 : Int32)))), (.int (nar .char (own_dg i1 (12 : Int32)))), (.int (nar .char (own_dg i1 (13 : Int32)))), (.int (nar .char (own_dg i1 (14 : Int32)))), (.int (nar .char (own_dg i1 (15 : Int32)))), (.int (nar .char (own_dg i2 (0 : Int32)))), (.int (nar .char (own_dg i2 (1 : Int32)))), (.int 0), (.int 0), (.int 0), (.int 0), (.int 0), (.int 0), (.int 0), (.int 0), (.int 0), (.int 0)]) .char := A66.same W68
  have x68 : Ext h0 h68 := own_ext_wr x66 W68 j1
  have N68 := Fr.snoc X68 N67 (Nat.le_trans Z0 j1)
  refine own_go st68 ?_
  show own_G p e below _ T68 (mkF m 364 #[.val (.long i0), .second, .val (.long i1), .second, .val (.long i2), .second, .val (.int i3), .val (.ref a1), .unset, .unset, .unset, .unset] [])
  refine own_go (fun t k => XS.aload X68.here hx rfl (hb hby at_364) rfl rfl k) ?_
  show own_G p e below _ T68 (mkF m 366 #[.val (.long i0), .second, .val (.long i1), .second, .val (.long i2), .second, .val (.int i3), .val (.ref a1), .unset, .unset, .unset, .unset] [(.ref a1)])
  refine own_go (fun t k => XS.bipush X68.here hx rfl (hb hby at_366) k) ?_
  show own_G p e below _ T68 (mkF m 368 #[.val (.long i0), .second, .val (.long i1), .second, .val (.long i2), .second, .val (.int i3), .val (.ref a1), .unset, .unset, .unset, .unset] [(.int (34 : Int32)), (.ref a1)])
  refine own_go (fun t k => XT.lload X68.here hx rfl (hb hby at_368) rfl k) ?_
  show own_G p e below _ T68 (mkF m 370 #[.val (.long i0), .second, .val (.long i1), .second, .val (.long i2), .second, .val (.int i3), .val (.ref a1), .unset, .unset, .unset, .unset] [(.long i2), (.int (34 : Int32)), (.ref a1)])
  refine own_go (fun t k => XS.iconst X68.here hx rfl (hb hby at_370) k) ?_
  show own_G p e below _ T68 (mkF m 371 #[.val (.long i0), .second, .val (.long i1), .second, .val (.long i2), .second, .val (.int i3), .val (.ref a1), .unset, .unset, .unset, .unset] [(.int (2 : Int32)), (.long i2), (.int (34 : Int32)), (.ref a1)])
  obtain ⟨T69, L69, v69, X69, ⟨rfl, rfl, q69⟩, st69⟩ := own_callS X68 hx hZ (y := (⟨"com/example/compensa/compensa/CheckDigitsGeneralDigitPinLaw", "dg", "(JI)C"⟩ : MethodName)) hown (hw _ (List.mem_of_getElem? (i := 1) rfl)) (hw _ (List.mem_of_getElem? (i := 2) rfl)) (hw _ (List.mem_of_getElem? (i := 3) rfl)) (hw _ (List.mem_of_getElem? (i := 4) rfl)) (by decide) (c_dg l Z a0 hw i2 (2 : Int32) h68) e68 (argsL := [(.long i2), (.int (2 : Int32))]) (rest := [(.int (34 : Int32)), (.ref a1)]) (g := (mkF m 371 #[.val (.long i0), .second, .val (.long i1), .second, .val (.long i2), .second, .val (.int i3), .val (.ref a1), .unset, .unset, .unset, .unset] [(.int (2 : Int32)), (.long i2), (.int (34 : Int32)), (.ref a1)])) rfl (by rw [hml]; rfl) (ps := [.long, .int]) (r := (some .char)) (by decide +kernel) rfl rfl (W := 2) (by show 2 * 0 + _ ≤ _; exact Nat.le_of_eq rfl) (hb hby at_371) (by decide) (by decide) (by decide) (by decide)
  have N69 := Fr.app N68 (Fr.nil n0)
  refine own_go st69 ?_
  show own_G p e below _ T69 (mkF m 374 #[.val (.long i0), .second, .val (.long i1), .second, .val (.long i2), .second, .val (.int i3), .val (.ref a1), .unset, .unset, .unset, .unset] [(.int (own_dg i2 (2 : Int32))), (.int (34 : Int32)), (.ref a1)])
  obtain ⟨T70, h70, X70, e70, W70, st70⟩ := stC X69 hx hZ q69 A68 (j := (34 : Int32)) (own_in (n := 44) rfl (by decide)) (g := (mkF m 374 #[.val (.long i0), .second, .val (.long i1), .second, .val (.long i2), .second, .val (.int i3), .val (.ref a1), .unset, .unset, .unset, .unset] [(.int (own_dg i2 (2 : Int32))), (.int (34 : Int32)), (.ref a1)])) rfl rfl (hb hby at_374)
  have A70 : Arr Z h70 a1 (own_cell c1 #[(.int (nar .char (own_dg i0 (0 : Int32)))), (.int (nar .char (own_dg i0 (1 : Int32)))), (.int (nar .char (own_dg i0 (2 : Int32)))), (.int (nar .char (own_dg i0 (3 : Int32)))), (.int (nar .char (i3 &&& (255 : Int32)).toUInt32.toUInt16.toUInt32.toInt32)), (.int (nar .char (own_dg i0 (5 : Int32)))), (.int (nar .char (own_dg i0 (6 : Int32)))), (.int (nar .char (own_dg i0 (7 : Int32)))), (.int (nar .char (own_dg i0 (8 : Int32)))), (.int (nar .char (own_dg i0 (9 : Int32)))), (.int (nar .char (own_dg i0 (10 : Int32)))), (.int (nar .char (own_dg i0 (11 : Int32)))), (.int (nar .char (own_dg i0 (12 : Int32)))), (.int (nar .char (own_dg i0 (13 : Int32)))), (.int (nar .char (own_dg i0 (14 : Int32)))), (.int (nar .char (own_dg i0 (15 : Int32)))), (.int (nar .char (own_dg i1 (0 : Int32)))), (.int (nar .char (own_dg i1 (1 : Int32)))), (.int (nar .char (own_dg i1 (2 : Int32)))), (.int (nar .char (own_dg i1 (3 : Int32)))), (.int (nar .char (own_dg i1 (4 : Int32)))), (.int (nar .char (own_dg i1 (5 : Int32)))), (.int (nar .char (own_dg i1 (6 : Int32)))), (.int (nar .char (own_dg i1 (7 : Int32)))), (.int (nar .char (own_dg i1 (8 : Int32)))), (.int (nar .char (own_dg i1 (9 : Int32)))), (.int (nar .char (own_dg i1 (10 : Int32)))), (.int (nar .char (own_dg i1 (11 : Int32)))), (.int (nar .char (own_dg i1 (12 : Int32)))), (.int (nar .char (own_dg i1 (13 : Int32)))), (.int (nar .char (own_dg i1 (14 : Int32)))), (.int (nar .char (own_dg i1 (15 : Int32)))), (.int (nar .char (own_dg i2 (0 : Int32)))), (.int (nar .char (own_dg i2 (1 : Int32)))), (.int (nar .char (own_dg i2 (2 : Int32)))), (.int 0), (.int 0), (.int 0), (.int 0), (.int 0), (.int 0), (.int 0), (.int 0), (.int 0)]) .char := A68.same W70
  have x70 : Ext h0 h70 := own_ext_wr x68 W70 j1
  have N70 := Fr.snoc X70 N69 (Nat.le_trans Z0 j1)
  refine own_go st70 ?_
  show own_G p e below _ T70 (mkF m 375 #[.val (.long i0), .second, .val (.long i1), .second, .val (.long i2), .second, .val (.int i3), .val (.ref a1), .unset, .unset, .unset, .unset] [])
  refine own_go (fun t k => XS.aload X70.here hx rfl (hb hby at_375) rfl rfl k) ?_
  show own_G p e below _ T70 (mkF m 377 #[.val (.long i0), .second, .val (.long i1), .second, .val (.long i2), .second, .val (.int i3), .val (.ref a1), .unset, .unset, .unset, .unset] [(.ref a1)])
  refine own_go (fun t k => XS.bipush X70.here hx rfl (hb hby at_377) k) ?_
  show own_G p e below _ T70 (mkF m 379 #[.val (.long i0), .second, .val (.long i1), .second, .val (.long i2), .second, .val (.int i3), .val (.ref a1), .unset, .unset, .unset, .unset] [(.int (35 : Int32)), (.ref a1)])
  refine own_go (fun t k => XT.lload X70.here hx rfl (hb hby at_379) rfl k) ?_
  show own_G p e below _ T70 (mkF m 381 #[.val (.long i0), .second, .val (.long i1), .second, .val (.long i2), .second, .val (.int i3), .val (.ref a1), .unset, .unset, .unset, .unset] [(.long i2), (.int (35 : Int32)), (.ref a1)])
  refine own_go (fun t k => XS.iconst X70.here hx rfl (hb hby at_381) k) ?_
  show own_G p e below _ T70 (mkF m 382 #[.val (.long i0), .second, .val (.long i1), .second, .val (.long i2), .second, .val (.int i3), .val (.ref a1), .unset, .unset, .unset, .unset] [(.int (3 : Int32)), (.long i2), (.int (35 : Int32)), (.ref a1)])
  obtain ⟨T71, L71, v71, X71, ⟨rfl, rfl, q71⟩, st71⟩ := own_callS X70 hx hZ (y := (⟨"com/example/compensa/compensa/CheckDigitsGeneralDigitPinLaw", "dg", "(JI)C"⟩ : MethodName)) hown (hw _ (List.mem_of_getElem? (i := 1) rfl)) (hw _ (List.mem_of_getElem? (i := 2) rfl)) (hw _ (List.mem_of_getElem? (i := 3) rfl)) (hw _ (List.mem_of_getElem? (i := 4) rfl)) (by decide) (c_dg l Z a0 hw i2 (3 : Int32) h70) e70 (argsL := [(.long i2), (.int (3 : Int32))]) (rest := [(.int (35 : Int32)), (.ref a1)]) (g := (mkF m 382 #[.val (.long i0), .second, .val (.long i1), .second, .val (.long i2), .second, .val (.int i3), .val (.ref a1), .unset, .unset, .unset, .unset] [(.int (3 : Int32)), (.long i2), (.int (35 : Int32)), (.ref a1)])) rfl (by rw [hml]; rfl) (ps := [.long, .int]) (r := (some .char)) (by decide +kernel) rfl rfl (W := 2) (by show 2 * 0 + _ ≤ _; exact Nat.le_of_eq rfl) (hb hby at_382) (by decide) (by decide) (by decide) (by decide)
  have N71 := Fr.app N70 (Fr.nil n0)
  refine own_go st71 ?_
  show own_G p e below _ T71 (mkF m 385 #[.val (.long i0), .second, .val (.long i1), .second, .val (.long i2), .second, .val (.int i3), .val (.ref a1), .unset, .unset, .unset, .unset] [(.int (own_dg i2 (3 : Int32))), (.int (35 : Int32)), (.ref a1)])
  obtain ⟨T72, h72, X72, e72, W72, st72⟩ := stC X71 hx hZ q71 A70 (j := (35 : Int32)) (own_in (n := 44) rfl (by decide)) (g := (mkF m 385 #[.val (.long i0), .second, .val (.long i1), .second, .val (.long i2), .second, .val (.int i3), .val (.ref a1), .unset, .unset, .unset, .unset] [(.int (own_dg i2 (3 : Int32))), (.int (35 : Int32)), (.ref a1)])) rfl rfl (hb hby at_385)
  have A72 : Arr Z h72 a1 (own_cell c1 #[(.int (nar .char (own_dg i0 (0 : Int32)))), (.int (nar .char (own_dg i0 (1 : Int32)))), (.int (nar .char (own_dg i0 (2 : Int32)))), (.int (nar .char (own_dg i0 (3 : Int32)))), (.int (nar .char (i3 &&& (255 : Int32)).toUInt32.toUInt16.toUInt32.toInt32)), (.int (nar .char (own_dg i0 (5 : Int32)))), (.int (nar .char (own_dg i0 (6 : Int32)))), (.int (nar .char (own_dg i0 (7 : Int32)))), (.int (nar .char (own_dg i0 (8 : Int32)))), (.int (nar .char (own_dg i0 (9 : Int32)))), (.int (nar .char (own_dg i0 (10 : Int32)))), (.int (nar .char (own_dg i0 (11 : Int32)))), (.int (nar .char (own_dg i0 (12 : Int32)))), (.int (nar .char (own_dg i0 (13 : Int32)))), (.int (nar .char (own_dg i0 (14 : Int32)))), (.int (nar .char (own_dg i0 (15 : Int32)))), (.int (nar .char (own_dg i1 (0 : Int32)))), (.int (nar .char (own_dg i1 (1 : Int32)))), (.int (nar .char (own_dg i1 (2 : Int32)))), (.int (nar .char (own_dg i1 (3 : Int32)))), (.int (nar .char (own_dg i1 (4 : Int32)))), (.int (nar .char (own_dg i1 (5 : Int32)))), (.int (nar .char (own_dg i1 (6 : Int32)))), (.int (nar .char (own_dg i1 (7 : Int32)))), (.int (nar .char (own_dg i1 (8 : Int32)))), (.int (nar .char (own_dg i1 (9 : Int32)))), (.int (nar .char (own_dg i1 (10 : Int32)))), (.int (nar .char (own_dg i1 (11 : Int32)))), (.int (nar .char (own_dg i1 (12 : Int32)))), (.int (nar .char (own_dg i1 (13 : Int32)))), (.int (nar .char (own_dg i1 (14 : Int32)))), (.int (nar .char (own_dg i1 (15 : Int32)))), (.int (nar .char (own_dg i2 (0 : Int32)))), (.int (nar .char (own_dg i2 (1 : Int32)))), (.int (nar .char (own_dg i2 (2 : Int32)))), (.int (nar .char (own_dg i2 (3 : Int32)))), (.int 0), (.int 0), (.int 0), (.int 0), (.int 0), (.int 0), (.int 0), (.int 0)]) .char := A70.same W72
  have x72 : Ext h0 h72 := own_ext_wr x70 W72 j1
  have N72 := Fr.snoc X72 N71 (Nat.le_trans Z0 j1)
  refine own_go st72 ?_
  show own_G p e below _ T72 (mkF m 386 #[.val (.long i0), .second, .val (.long i1), .second, .val (.long i2), .second, .val (.int i3), .val (.ref a1), .unset, .unset, .unset, .unset] [])
  refine own_go (fun t k => XS.aload X72.here hx rfl (hb hby at_386) rfl rfl k) ?_
  show own_G p e below _ T72 (mkF m 388 #[.val (.long i0), .second, .val (.long i1), .second, .val (.long i2), .second, .val (.int i3), .val (.ref a1), .unset, .unset, .unset, .unset] [(.ref a1)])
  refine own_go (fun t k => XS.bipush X72.here hx rfl (hb hby at_388) k) ?_
  show own_G p e below _ T72 (mkF m 390 #[.val (.long i0), .second, .val (.long i1), .second, .val (.long i2), .second, .val (.int i3), .val (.ref a1), .unset, .unset, .unset, .unset] [(.int (36 : Int32)), (.ref a1)])
  refine own_go (fun t k => XT.lload X72.here hx rfl (hb hby at_390) rfl k) ?_
  show own_G p e below _ T72 (mkF m 392 #[.val (.long i0), .second, .val (.long i1), .second, .val (.long i2), .second, .val (.int i3), .val (.ref a1), .unset, .unset, .unset, .unset] [(.long i2), (.int (36 : Int32)), (.ref a1)])
  refine own_go (fun t k => XS.iconst X72.here hx rfl (hb hby at_392) k) ?_
  show own_G p e below _ T72 (mkF m 393 #[.val (.long i0), .second, .val (.long i1), .second, .val (.long i2), .second, .val (.int i3), .val (.ref a1), .unset, .unset, .unset, .unset] [(.int (4 : Int32)), (.long i2), (.int (36 : Int32)), (.ref a1)])
  obtain ⟨T73, L73, v73, X73, ⟨rfl, rfl, q73⟩, st73⟩ := own_callS X72 hx hZ (y := (⟨"com/example/compensa/compensa/CheckDigitsGeneralDigitPinLaw", "dg", "(JI)C"⟩ : MethodName)) hown (hw _ (List.mem_of_getElem? (i := 1) rfl)) (hw _ (List.mem_of_getElem? (i := 2) rfl)) (hw _ (List.mem_of_getElem? (i := 3) rfl)) (hw _ (List.mem_of_getElem? (i := 4) rfl)) (by decide) (c_dg l Z a0 hw i2 (4 : Int32) h72) e72 (argsL := [(.long i2), (.int (4 : Int32))]) (rest := [(.int (36 : Int32)), (.ref a1)]) (g := (mkF m 393 #[.val (.long i0), .second, .val (.long i1), .second, .val (.long i2), .second, .val (.int i3), .val (.ref a1), .unset, .unset, .unset, .unset] [(.int (4 : Int32)), (.long i2), (.int (36 : Int32)), (.ref a1)])) rfl (by rw [hml]; rfl) (ps := [.long, .int]) (r := (some .char)) (by decide +kernel) rfl rfl (W := 2) (by show 2 * 0 + _ ≤ _; exact Nat.le_of_eq rfl) (hb hby at_393) (by decide) (by decide) (by decide) (by decide)
  have N73 := Fr.app N72 (Fr.nil n0)
  refine own_go st73 ?_
  show own_G p e below _ T73 (mkF m 396 #[.val (.long i0), .second, .val (.long i1), .second, .val (.long i2), .second, .val (.int i3), .val (.ref a1), .unset, .unset, .unset, .unset] [(.int (own_dg i2 (4 : Int32))), (.int (36 : Int32)), (.ref a1)])
  obtain ⟨T74, h74, X74, e74, W74, st74⟩ := stC X73 hx hZ q73 A72 (j := (36 : Int32)) (own_in (n := 44) rfl (by decide)) (g := (mkF m 396 #[.val (.long i0), .second, .val (.long i1), .second, .val (.long i2), .second, .val (.int i3), .val (.ref a1), .unset, .unset, .unset, .unset] [(.int (own_dg i2 (4 : Int32))), (.int (36 : Int32)), (.ref a1)])) rfl rfl (hb hby at_396)
  have A74 : Arr Z h74 a1 (own_cell c1 #[(.int (nar .char (own_dg i0 (0 : Int32)))), (.int (nar .char (own_dg i0 (1 : Int32)))), (.int (nar .char (own_dg i0 (2 : Int32)))), (.int (nar .char (own_dg i0 (3 : Int32)))), (.int (nar .char (i3 &&& (255 : Int32)).toUInt32.toUInt16.toUInt32.toInt32)), (.int (nar .char (own_dg i0 (5 : Int32)))), (.int (nar .char (own_dg i0 (6 : Int32)))), (.int (nar .char (own_dg i0 (7 : Int32)))), (.int (nar .char (own_dg i0 (8 : Int32)))), (.int (nar .char (own_dg i0 (9 : Int32)))), (.int (nar .char (own_dg i0 (10 : Int32)))), (.int (nar .char (own_dg i0 (11 : Int32)))), (.int (nar .char (own_dg i0 (12 : Int32)))), (.int (nar .char (own_dg i0 (13 : Int32)))), (.int (nar .char (own_dg i0 (14 : Int32)))), (.int (nar .char (own_dg i0 (15 : Int32)))), (.int (nar .char (own_dg i1 (0 : Int32)))), (.int (nar .char (own_dg i1 (1 : Int32)))), (.int (nar .char (own_dg i1 (2 : Int32)))), (.int (nar .char (own_dg i1 (3 : Int32)))), (.int (nar .char (own_dg i1 (4 : Int32)))), (.int (nar .char (own_dg i1 (5 : Int32)))), (.int (nar .char (own_dg i1 (6 : Int32)))), (.int (nar .char (own_dg i1 (7 : Int32)))), (.int (nar .char (own_dg i1 (8 : Int32)))), (.int (nar .char (own_dg i1 (9 : Int32)))), (.int (nar .char (own_dg i1 (10 : Int32)))), (.int (nar .char (own_dg i1 (11 : Int32)))), (.int (nar .char (own_dg i1 (12 : Int32)))), (.int (nar .char (own_dg i1 (13 : Int32)))), (.int (nar .char (own_dg i1 (14 : Int32)))), (.int (nar .char (own_dg i1 (15 : Int32)))), (.int (nar .char (own_dg i2 (0 : Int32)))), (.int (nar .char (own_dg i2 (1 : Int32)))), (.int (nar .char (own_dg i2 (2 : Int32)))), (.int (nar .char (own_dg i2 (3 : Int32)))), (.int (nar .char (own_dg i2 (4 : Int32)))), (.int 0), (.int 0), (.int 0), (.int 0), (.int 0), (.int 0), (.int 0)]) .char := A72.same W74
  have x74 : Ext h0 h74 := own_ext_wr x72 W74 j1
  have N74 := Fr.snoc X74 N73 (Nat.le_trans Z0 j1)
  refine own_go st74 ?_
  show own_G p e below _ T74 (mkF m 397 #[.val (.long i0), .second, .val (.long i1), .second, .val (.long i2), .second, .val (.int i3), .val (.ref a1), .unset, .unset, .unset, .unset] [])
  refine own_go (fun t k => XS.aload X74.here hx rfl (hb hby at_397) rfl rfl k) ?_
  show own_G p e below _ T74 (mkF m 399 #[.val (.long i0), .second, .val (.long i1), .second, .val (.long i2), .second, .val (.int i3), .val (.ref a1), .unset, .unset, .unset, .unset] [(.ref a1)])
  refine own_go (fun t k => XS.bipush X74.here hx rfl (hb hby at_399) k) ?_
  show own_G p e below _ T74 (mkF m 401 #[.val (.long i0), .second, .val (.long i1), .second, .val (.long i2), .second, .val (.int i3), .val (.ref a1), .unset, .unset, .unset, .unset] [(.int (37 : Int32)), (.ref a1)])
  refine own_go (fun t k => XT.lload X74.here hx rfl (hb hby at_401) rfl k) ?_
  show own_G p e below _ T74 (mkF m 403 #[.val (.long i0), .second, .val (.long i1), .second, .val (.long i2), .second, .val (.int i3), .val (.ref a1), .unset, .unset, .unset, .unset] [(.long i2), (.int (37 : Int32)), (.ref a1)])
  refine own_go (fun t k => XS.iconst X74.here hx rfl (hb hby at_403) k) ?_
  show own_G p e below _ T74 (mkF m 404 #[.val (.long i0), .second, .val (.long i1), .second, .val (.long i2), .second, .val (.int i3), .val (.ref a1), .unset, .unset, .unset, .unset] [(.int (5 : Int32)), (.long i2), (.int (37 : Int32)), (.ref a1)])
  obtain ⟨T75, L75, v75, X75, ⟨rfl, rfl, q75⟩, st75⟩ := own_callS X74 hx hZ (y := (⟨"com/example/compensa/compensa/CheckDigitsGeneralDigitPinLaw", "dg", "(JI)C"⟩ : MethodName)) hown (hw _ (List.mem_of_getElem? (i := 1) rfl)) (hw _ (List.mem_of_getElem? (i := 2) rfl)) (hw _ (List.mem_of_getElem? (i := 3) rfl)) (hw _ (List.mem_of_getElem? (i := 4) rfl)) (by decide) (c_dg l Z a0 hw i2 (5 : Int32) h74) e74 (argsL := [(.long i2), (.int (5 : Int32))]) (rest := [(.int (37 : Int32)), (.ref a1)]) (g := (mkF m 404 #[.val (.long i0), .second, .val (.long i1), .second, .val (.long i2), .second, .val (.int i3), .val (.ref a1), .unset, .unset, .unset, .unset] [(.int (5 : Int32)), (.long i2), (.int (37 : Int32)), (.ref a1)])) rfl (by rw [hml]; rfl) (ps := [.long, .int]) (r := (some .char)) (by decide +kernel) rfl rfl (W := 2) (by show 2 * 0 + _ ≤ _; exact Nat.le_of_eq rfl) (hb hby at_404) (by decide) (by decide) (by decide) (by decide)
  have N75 := Fr.app N74 (Fr.nil n0)
  refine own_go st75 ?_
  show own_G p e below _ T75 (mkF m 407 #[.val (.long i0), .second, .val (.long i1), .second, .val (.long i2), .second, .val (.int i3), .val (.ref a1), .unset, .unset, .unset, .unset] [(.int (own_dg i2 (5 : Int32))), (.int (37 : Int32)), (.ref a1)])
  obtain ⟨T76, h76, X76, e76, W76, st76⟩ := stC X75 hx hZ q75 A74 (j := (37 : Int32)) (own_in (n := 44) rfl (by decide)) (g := (mkF m 407 #[.val (.long i0), .second, .val (.long i1), .second, .val (.long i2), .second, .val (.int i3), .val (.ref a1), .unset, .unset, .unset, .unset] [(.int (own_dg i2 (5 : Int32))), (.int (37 : Int32)), (.ref a1)])) rfl rfl (hb hby at_407)
  have A76 : Arr Z h76 a1 (own_cell c1 #[(.int (nar .char (own_dg i0 (0 : Int32)))), (.int (nar .char (own_dg i0 (1 : Int32)))), (.int (nar .char (own_dg i0 (2 : Int32)))), (.int (nar .char (own_dg i0 (3 : Int32)))), (.int (nar .char (i3 &&& (255 : Int32)).toUInt32.toUInt16.toUInt32.toInt32)), (.int (nar .char (own_dg i0 (5 : Int32)))), (.int (nar .char (own_dg i0 (6 : Int32)))), (.int (nar .char (own_dg i0 (7 : Int32)))), (.int (nar .char (own_dg i0 (8 : Int32)))), (.int (nar .char (own_dg i0 (9 : Int32)))), (.int (nar .char (own_dg i0 (10 : Int32)))), (.int (nar .char (own_dg i0 (11 : Int32)))), (.int (nar .char (own_dg i0 (12 : Int32)))), (.int (nar .char (own_dg i0 (13 : Int32)))), (.int (nar .char (own_dg i0 (14 : Int32)))), (.int (nar .char (own_dg i0 (15 : Int32)))), (.int (nar .char (own_dg i1 (0 : Int32)))), (.int (nar .char (own_dg i1 (1 : Int32)))), (.int (nar .char (own_dg i1 (2 : Int32)))), (.int (nar .char (own_dg i1 (3 : Int32)))), (.int (nar .char (own_dg i1 (4 : Int32)))), (.int (nar .char (own_dg i1 (5 : Int32)))), (.int (nar .char (own_dg i1 (6 : Int32)))), (.int (nar .char (own_dg i1 (7 : Int32)))), (.int (nar .char (own_dg i1 (8 : Int32)))), (.int (nar .char (own_dg i1 (9 : Int32)))), (.int (nar .char (own_dg i1 (10 : Int32)))), (.int (nar .char (own_dg i1 (11 : Int32)))), (.int (nar .char (own_dg i1 (12 : Int32)))), (.int (nar .char (own_dg i1 (13 : Int32)))), (.int (nar .char (own_dg i1 (14 : Int32)))), (.int (nar .char (own_dg i1 (15 : Int32)))), (.int (nar .char (own_dg i2 (0 : Int32)))), (.int (nar .char (own_dg i2 (1 : Int32)))), (.int (nar .char (own_dg i2 (2 : Int32)))), (.int (nar .char (own_dg i2 (3 : Int32)))), (.int (nar .char (own_dg i2 (4 : Int32)))), (.int (nar .char (own_dg i2 (5 : Int32)))), (.int 0), (.int 0), (.int 0), (.int 0), (.int 0), (.int 0)]) .char := A74.same W76
  have x76 : Ext h0 h76 := own_ext_wr x74 W76 j1
  have N76 := Fr.snoc X76 N75 (Nat.le_trans Z0 j1)
  refine own_go st76 ?_
  show own_G p e below _ T76 (mkF m 408 #[.val (.long i0), .second, .val (.long i1), .second, .val (.long i2), .second, .val (.int i3), .val (.ref a1), .unset, .unset, .unset, .unset] [])
  refine own_go (fun t k => XS.aload X76.here hx rfl (hb hby at_408) rfl rfl k) ?_
  show own_G p e below _ T76 (mkF m 410 #[.val (.long i0), .second, .val (.long i1), .second, .val (.long i2), .second, .val (.int i3), .val (.ref a1), .unset, .unset, .unset, .unset] [(.ref a1)])
  refine own_go (fun t k => XS.bipush X76.here hx rfl (hb hby at_410) k) ?_
  show own_G p e below _ T76 (mkF m 412 #[.val (.long i0), .second, .val (.long i1), .second, .val (.long i2), .second, .val (.int i3), .val (.ref a1), .unset, .unset, .unset, .unset] [(.int (38 : Int32)), (.ref a1)])
  refine own_go (fun t k => XT.lload X76.here hx rfl (hb hby at_412) rfl k) ?_
  show own_G p e below _ T76 (mkF m 414 #[.val (.long i0), .second, .val (.long i1), .second, .val (.long i2), .second, .val (.int i3), .val (.ref a1), .unset, .unset, .unset, .unset] [(.long i2), (.int (38 : Int32)), (.ref a1)])
  refine own_go (fun t k => XS.bipush X76.here hx rfl (hb hby at_414) k) ?_
  show own_G p e below _ T76 (mkF m 416 #[.val (.long i0), .second, .val (.long i1), .second, .val (.long i2), .second, .val (.int i3), .val (.ref a1), .unset, .unset, .unset, .unset] [(.int (6 : Int32)), (.long i2), (.int (38 : Int32)), (.ref a1)])
  obtain ⟨T77, L77, v77, X77, ⟨rfl, rfl, q77⟩, st77⟩ := own_callS X76 hx hZ (y := (⟨"com/example/compensa/compensa/CheckDigitsGeneralDigitPinLaw", "dg", "(JI)C"⟩ : MethodName)) hown (hw _ (List.mem_of_getElem? (i := 1) rfl)) (hw _ (List.mem_of_getElem? (i := 2) rfl)) (hw _ (List.mem_of_getElem? (i := 3) rfl)) (hw _ (List.mem_of_getElem? (i := 4) rfl)) (by decide) (c_dg l Z a0 hw i2 (6 : Int32) h76) e76 (argsL := [(.long i2), (.int (6 : Int32))]) (rest := [(.int (38 : Int32)), (.ref a1)]) (g := (mkF m 416 #[.val (.long i0), .second, .val (.long i1), .second, .val (.long i2), .second, .val (.int i3), .val (.ref a1), .unset, .unset, .unset, .unset] [(.int (6 : Int32)), (.long i2), (.int (38 : Int32)), (.ref a1)])) rfl (by rw [hml]; rfl) (ps := [.long, .int]) (r := (some .char)) (by decide +kernel) rfl rfl (W := 2) (by show 2 * 0 + _ ≤ _; exact Nat.le_of_eq rfl) (hb hby at_416) (by decide) (by decide) (by decide) (by decide)
  have N77 := Fr.app N76 (Fr.nil n0)
  refine own_go st77 ?_
  show own_G p e below _ T77 (mkF m 419 #[.val (.long i0), .second, .val (.long i1), .second, .val (.long i2), .second, .val (.int i3), .val (.ref a1), .unset, .unset, .unset, .unset] [(.int (own_dg i2 (6 : Int32))), (.int (38 : Int32)), (.ref a1)])
  obtain ⟨T78, h78, X78, e78, W78, st78⟩ := stC X77 hx hZ q77 A76 (j := (38 : Int32)) (own_in (n := 44) rfl (by decide)) (g := (mkF m 419 #[.val (.long i0), .second, .val (.long i1), .second, .val (.long i2), .second, .val (.int i3), .val (.ref a1), .unset, .unset, .unset, .unset] [(.int (own_dg i2 (6 : Int32))), (.int (38 : Int32)), (.ref a1)])) rfl rfl (hb hby at_419)
  have A78 : Arr Z h78 a1 (own_cell c1 #[(.int (nar .char (own_dg i0 (0 : Int32)))), (.int (nar .char (own_dg i0 (1 : Int32)))), (.int (nar .char (own_dg i0 (2 : Int32)))), (.int (nar .char (own_dg i0 (3 : Int32)))), (.int (nar .char (i3 &&& (255 : Int32)).toUInt32.toUInt16.toUInt32.toInt32)), (.int (nar .char (own_dg i0 (5 : Int32)))), (.int (nar .char (own_dg i0 (6 : Int32)))), (.int (nar .char (own_dg i0 (7 : Int32)))), (.int (nar .char (own_dg i0 (8 : Int32)))), (.int (nar .char (own_dg i0 (9 : Int32)))), (.int (nar .char (own_dg i0 (10 : Int32)))), (.int (nar .char (own_dg i0 (11 : Int32)))), (.int (nar .char (own_dg i0 (12 : Int32)))), (.int (nar .char (own_dg i0 (13 : Int32)))), (.int (nar .char (own_dg i0 (14 : Int32)))), (.int (nar .char (own_dg i0 (15 : Int32)))), (.int (nar .char (own_dg i1 (0 : Int32)))), (.int (nar .char (own_dg i1 (1 : Int32)))), (.int (nar .char (own_dg i1 (2 : Int32)))), (.int (nar .char (own_dg i1 (3 : Int32)))), (.int (nar .char (own_dg i1 (4 : Int32)))), (.int (nar .char (own_dg i1 (5 : Int32)))), (.int (nar .char (own_dg i1 (6 : Int32)))), (.int (nar .char (own_dg i1 (7 : Int32)))), (.int (nar .char (own_dg i1 (8 : Int32)))), (.int (nar .char (own_dg i1 (9 : Int32)))), (.int (nar .char (own_dg i1 (10 : Int32)))), (.int (nar .char (own_dg i1 (11 : Int32)))), (.int (nar .char (own_dg i1 (12 : Int32)))), (.int (nar .char (own_dg i1 (13 : Int32)))), (.int (nar .char (own_dg i1 (14 : Int32)))), (.int (nar .char (own_dg i1 (15 : Int32)))), (.int (nar .char (own_dg i2 (0 : Int32)))), (.int (nar .char (own_dg i2 (1 : Int32)))), (.int (nar .char (own_dg i2 (2 : Int32)))), (.int (nar .char (own_dg i2 (3 : Int32)))), (.int (nar .char (own_dg i2 (4 : Int32)))), (.int (nar .char (own_dg i2 (5 : Int32)))), (.int (nar .char (own_dg i2 (6 : Int32)))), (.int 0), (.int 0), (.int 0), (.int 0), (.int 0)]) .char := A76.same W78
  have x78 : Ext h0 h78 := own_ext_wr x76 W78 j1
  have N78 := Fr.snoc X78 N77 (Nat.le_trans Z0 j1)
  refine own_go st78 ?_
  show own_G p e below _ T78 (mkF m 420 #[.val (.long i0), .second, .val (.long i1), .second, .val (.long i2), .second, .val (.int i3), .val (.ref a1), .unset, .unset, .unset, .unset] [])
  refine own_go (fun t k => XS.aload X78.here hx rfl (hb hby at_420) rfl rfl k) ?_
  show own_G p e below _ T78 (mkF m 422 #[.val (.long i0), .second, .val (.long i1), .second, .val (.long i2), .second, .val (.int i3), .val (.ref a1), .unset, .unset, .unset, .unset] [(.ref a1)])
  refine own_go (fun t k => XS.bipush X78.here hx rfl (hb hby at_422) k) ?_
  show own_G p e below _ T78 (mkF m 424 #[.val (.long i0), .second, .val (.long i1), .second, .val (.long i2), .second, .val (.int i3), .val (.ref a1), .unset, .unset, .unset, .unset] [(.int (39 : Int32)), (.ref a1)])
  refine own_go (fun t k => XT.lload X78.here hx rfl (hb hby at_424) rfl k) ?_
  show own_G p e below _ T78 (mkF m 426 #[.val (.long i0), .second, .val (.long i1), .second, .val (.long i2), .second, .val (.int i3), .val (.ref a1), .unset, .unset, .unset, .unset] [(.long i2), (.int (39 : Int32)), (.ref a1)])
  refine own_go (fun t k => XS.bipush X78.here hx rfl (hb hby at_426) k) ?_
  show own_G p e below _ T78 (mkF m 428 #[.val (.long i0), .second, .val (.long i1), .second, .val (.long i2), .second, .val (.int i3), .val (.ref a1), .unset, .unset, .unset, .unset] [(.int (7 : Int32)), (.long i2), (.int (39 : Int32)), (.ref a1)])
  obtain ⟨T79, L79, v79, X79, ⟨rfl, rfl, q79⟩, st79⟩ := own_callS X78 hx hZ (y := (⟨"com/example/compensa/compensa/CheckDigitsGeneralDigitPinLaw", "dg", "(JI)C"⟩ : MethodName)) hown (hw _ (List.mem_of_getElem? (i := 1) rfl)) (hw _ (List.mem_of_getElem? (i := 2) rfl)) (hw _ (List.mem_of_getElem? (i := 3) rfl)) (hw _ (List.mem_of_getElem? (i := 4) rfl)) (by decide) (c_dg l Z a0 hw i2 (7 : Int32) h78) e78 (argsL := [(.long i2), (.int (7 : Int32))]) (rest := [(.int (39 : Int32)), (.ref a1)]) (g := (mkF m 428 #[.val (.long i0), .second, .val (.long i1), .second, .val (.long i2), .second, .val (.int i3), .val (.ref a1), .unset, .unset, .unset, .unset] [(.int (7 : Int32)), (.long i2), (.int (39 : Int32)), (.ref a1)])) rfl (by rw [hml]; rfl) (ps := [.long, .int]) (r := (some .char)) (by decide +kernel) rfl rfl (W := 2) (by show 2 * 0 + _ ≤ _; exact Nat.le_of_eq rfl) (hb hby at_428) (by decide) (by decide) (by decide) (by decide)
  have N79 := Fr.app N78 (Fr.nil n0)
  refine own_go st79 ?_
  show own_G p e below _ T79 (mkF m 431 #[.val (.long i0), .second, .val (.long i1), .second, .val (.long i2), .second, .val (.int i3), .val (.ref a1), .unset, .unset, .unset, .unset] [(.int (own_dg i2 (7 : Int32))), (.int (39 : Int32)), (.ref a1)])
  obtain ⟨T80, h80, X80, e80, W80, st80⟩ := stC X79 hx hZ q79 A78 (j := (39 : Int32)) (own_in (n := 44) rfl (by decide)) (g := (mkF m 431 #[.val (.long i0), .second, .val (.long i1), .second, .val (.long i2), .second, .val (.int i3), .val (.ref a1), .unset, .unset, .unset, .unset] [(.int (own_dg i2 (7 : Int32))), (.int (39 : Int32)), (.ref a1)])) rfl rfl (hb hby at_431)
  have A80 : Arr Z h80 a1 (own_cell c1 #[(.int (nar .char (own_dg i0 (0 : Int32)))), (.int (nar .char (own_dg i0 (1 : Int32)))), (.int (nar .char (own_dg i0 (2 : Int32)))), (.int (nar .char (own_dg i0 (3 : Int32)))), (.int (nar .char (i3 &&& (255 : Int32)).toUInt32.toUInt16.toUInt32.toInt32)), (.int (nar .char (own_dg i0 (5 : Int32)))), (.int (nar .char (own_dg i0 (6 : Int32)))), (.int (nar .char (own_dg i0 (7 : Int32)))), (.int (nar .char (own_dg i0 (8 : Int32)))), (.int (nar .char (own_dg i0 (9 : Int32)))), (.int (nar .char (own_dg i0 (10 : Int32)))), (.int (nar .char (own_dg i0 (11 : Int32)))), (.int (nar .char (own_dg i0 (12 : Int32)))), (.int (nar .char (own_dg i0 (13 : Int32)))), (.int (nar .char (own_dg i0 (14 : Int32)))), (.int (nar .char (own_dg i0 (15 : Int32)))), (.int (nar .char (own_dg i1 (0 : Int32)))), (.int (nar .char (own_dg i1 (1 : Int32)))), (.int (nar .char (own_dg i1 (2 : Int32)))), (.int (nar .char (own_dg i1 (3 : Int32)))), (.int (nar .char (own_dg i1 (4 : Int32)))), (.int (nar .char (own_dg i1 (5 : Int32)))), (.int (nar .char (own_dg i1 (6 : Int32)))), (.int (nar .char (own_dg i1 (7 : Int32)))), (.int (nar .char (own_dg i1 (8 : Int32)))), (.int (nar .char (own_dg i1 (9 : Int32)))), (.int (nar .char (own_dg i1 (10 : Int32)))), (.int (nar .char (own_dg i1 (11 : Int32)))), (.int (nar .char (own_dg i1 (12 : Int32)))), (.int (nar .char (own_dg i1 (13 : Int32)))), (.int (nar .char (own_dg i1 (14 : Int32)))), (.int (nar .char (own_dg i1 (15 : Int32)))), (.int (nar .char (own_dg i2 (0 : Int32)))), (.int (nar .char (own_dg i2 (1 : Int32)))), (.int (nar .char (own_dg i2 (2 : Int32)))), (.int (nar .char (own_dg i2 (3 : Int32)))), (.int (nar .char (own_dg i2 (4 : Int32)))), (.int (nar .char (own_dg i2 (5 : Int32)))), (.int (nar .char (own_dg i2 (6 : Int32)))), (.int (nar .char (own_dg i2 (7 : Int32)))), (.int 0), (.int 0), (.int 0), (.int 0)]) .char := A78.same W80
  have x80 : Ext h0 h80 := own_ext_wr x78 W80 j1
  have N80 := Fr.snoc X80 N79 (Nat.le_trans Z0 j1)
  refine own_go st80 ?_
  show own_G p e below _ T80 (mkF m 432 #[.val (.long i0), .second, .val (.long i1), .second, .val (.long i2), .second, .val (.int i3), .val (.ref a1), .unset, .unset, .unset, .unset] [])
  refine own_go (fun t k => XS.aload X80.here hx rfl (hb hby at_432) rfl rfl k) ?_
  show own_G p e below _ T80 (mkF m 434 #[.val (.long i0), .second, .val (.long i1), .second, .val (.long i2), .second, .val (.int i3), .val (.ref a1), .unset, .unset, .unset, .unset] [(.ref a1)])
  refine own_go (fun t k => XS.bipush X80.here hx rfl (hb hby at_434) k) ?_
  show own_G p e below _ T80 (mkF m 436 #[.val (.long i0), .second, .val (.long i1), .second, .val (.long i2), .second, .val (.int i3), .val (.ref a1), .unset, .unset, .unset, .unset] [(.int (40 : Int32)), (.ref a1)])
  refine own_go (fun t k => XT.lload X80.here hx rfl (hb hby at_436) rfl k) ?_
  show own_G p e below _ T80 (mkF m 438 #[.val (.long i0), .second, .val (.long i1), .second, .val (.long i2), .second, .val (.int i3), .val (.ref a1), .unset, .unset, .unset, .unset] [(.long i2), (.int (40 : Int32)), (.ref a1)])
  refine own_go (fun t k => XS.bipush X80.here hx rfl (hb hby at_438) k) ?_
  show own_G p e below _ T80 (mkF m 440 #[.val (.long i0), .second, .val (.long i1), .second, .val (.long i2), .second, .val (.int i3), .val (.ref a1), .unset, .unset, .unset, .unset] [(.int (8 : Int32)), (.long i2), (.int (40 : Int32)), (.ref a1)])
  obtain ⟨T81, L81, v81, X81, ⟨rfl, rfl, q81⟩, st81⟩ := own_callS X80 hx hZ (y := (⟨"com/example/compensa/compensa/CheckDigitsGeneralDigitPinLaw", "dg", "(JI)C"⟩ : MethodName)) hown (hw _ (List.mem_of_getElem? (i := 1) rfl)) (hw _ (List.mem_of_getElem? (i := 2) rfl)) (hw _ (List.mem_of_getElem? (i := 3) rfl)) (hw _ (List.mem_of_getElem? (i := 4) rfl)) (by decide) (c_dg l Z a0 hw i2 (8 : Int32) h80) e80 (argsL := [(.long i2), (.int (8 : Int32))]) (rest := [(.int (40 : Int32)), (.ref a1)]) (g := (mkF m 440 #[.val (.long i0), .second, .val (.long i1), .second, .val (.long i2), .second, .val (.int i3), .val (.ref a1), .unset, .unset, .unset, .unset] [(.int (8 : Int32)), (.long i2), (.int (40 : Int32)), (.ref a1)])) rfl (by rw [hml]; rfl) (ps := [.long, .int]) (r := (some .char)) (by decide +kernel) rfl rfl (W := 2) (by show 2 * 0 + _ ≤ _; exact Nat.le_of_eq rfl) (hb hby at_440) (by decide) (by decide) (by decide) (by decide)
  have N81 := Fr.app N80 (Fr.nil n0)
  refine own_go st81 ?_
  show own_G p e below _ T81 (mkF m 443 #[.val (.long i0), .second, .val (.long i1), .second, .val (.long i2), .second, .val (.int i3), .val (.ref a1), .unset, .unset, .unset, .unset] [(.int (own_dg i2 (8 : Int32))), (.int (40 : Int32)), (.ref a1)])
  obtain ⟨T82, h82, X82, e82, W82, st82⟩ := stC X81 hx hZ q81 A80 (j := (40 : Int32)) (own_in (n := 44) rfl (by decide)) (g := (mkF m 443 #[.val (.long i0), .second, .val (.long i1), .second, .val (.long i2), .second, .val (.int i3), .val (.ref a1), .unset, .unset, .unset, .unset] [(.int (own_dg i2 (8 : Int32))), (.int (40 : Int32)), (.ref a1)])) rfl rfl (hb hby at_443)
  have A82 : Arr Z h82 a1 (own_cell c1 #[(.int (nar .char (own_dg i0 (0 : Int32)))), (.int (nar .char (own_dg i0 (1 : Int32)))), (.int (nar .char (own_dg i0 (2 : Int32)))), (.int (nar .char (own_dg i0 (3 : Int32)))), (.int (nar .char (i3 &&& (255 : Int32)).toUInt32.toUInt16.toUInt32.toInt32)), (.int (nar .char (own_dg i0 (5 : Int32)))), (.int (nar .char (own_dg i0 (6 : Int32)))), (.int (nar .char (own_dg i0 (7 : Int32)))), (.int (nar .char (own_dg i0 (8 : Int32)))), (.int (nar .char (own_dg i0 (9 : Int32)))), (.int (nar .char (own_dg i0 (10 : Int32)))), (.int (nar .char (own_dg i0 (11 : Int32)))), (.int (nar .char (own_dg i0 (12 : Int32)))), (.int (nar .char (own_dg i0 (13 : Int32)))), (.int (nar .char (own_dg i0 (14 : Int32)))), (.int (nar .char (own_dg i0 (15 : Int32)))), (.int (nar .char (own_dg i1 (0 : Int32)))), (.int (nar .char (own_dg i1 (1 : Int32)))), (.int (nar .char (own_dg i1 (2 : Int32)))), (.int (nar .char (own_dg i1 (3 : Int32)))), (.int (nar .char (own_dg i1 (4 : Int32)))), (.int (nar .char (own_dg i1 (5 : Int32)))), (.int (nar .char (own_dg i1 (6 : Int32)))), (.int (nar .char (own_dg i1 (7 : Int32)))), (.int (nar .char (own_dg i1 (8 : Int32)))), (.int (nar .char (own_dg i1 (9 : Int32)))), (.int (nar .char (own_dg i1 (10 : Int32)))), (.int (nar .char (own_dg i1 (11 : Int32)))), (.int (nar .char (own_dg i1 (12 : Int32)))), (.int (nar .char (own_dg i1 (13 : Int32)))), (.int (nar .char (own_dg i1 (14 : Int32)))), (.int (nar .char (own_dg i1 (15 : Int32)))), (.int (nar .char (own_dg i2 (0 : Int32)))), (.int (nar .char (own_dg i2 (1 : Int32)))), (.int (nar .char (own_dg i2 (2 : Int32)))), (.int (nar .char (own_dg i2 (3 : Int32)))), (.int (nar .char (own_dg i2 (4 : Int32)))), (.int (nar .char (own_dg i2 (5 : Int32)))), (.int (nar .char (own_dg i2 (6 : Int32)))), (.int (nar .char (own_dg i2 (7 : Int32)))), (.int (nar .char (own_dg i2 (8 : Int32)))), (.int 0), (.int 0), (.int 0)]) .char := A80.same W82
  have x82 : Ext h0 h82 := own_ext_wr x80 W82 j1
  have N82 := Fr.snoc X82 N81 (Nat.le_trans Z0 j1)
  refine own_go st82 ?_
  show own_G p e below _ T82 (mkF m 444 #[.val (.long i0), .second, .val (.long i1), .second, .val (.long i2), .second, .val (.int i3), .val (.ref a1), .unset, .unset, .unset, .unset] [])
  refine own_go (fun t k => XS.aload X82.here hx rfl (hb hby at_444) rfl rfl k) ?_
  show own_G p e below _ T82 (mkF m 446 #[.val (.long i0), .second, .val (.long i1), .second, .val (.long i2), .second, .val (.int i3), .val (.ref a1), .unset, .unset, .unset, .unset] [(.ref a1)])
  refine own_go (fun t k => XS.bipush X82.here hx rfl (hb hby at_446) k) ?_
  show own_G p e below _ T82 (mkF m 448 #[.val (.long i0), .second, .val (.long i1), .second, .val (.long i2), .second, .val (.int i3), .val (.ref a1), .unset, .unset, .unset, .unset] [(.int (41 : Int32)), (.ref a1)])
  refine own_go (fun t k => XT.lload X82.here hx rfl (hb hby at_448) rfl k) ?_
  show own_G p e below _ T82 (mkF m 450 #[.val (.long i0), .second, .val (.long i1), .second, .val (.long i2), .second, .val (.int i3), .val (.ref a1), .unset, .unset, .unset, .unset] [(.long i2), (.int (41 : Int32)), (.ref a1)])
  refine own_go (fun t k => XS.bipush X82.here hx rfl (hb hby at_450) k) ?_
  show own_G p e below _ T82 (mkF m 452 #[.val (.long i0), .second, .val (.long i1), .second, .val (.long i2), .second, .val (.int i3), .val (.ref a1), .unset, .unset, .unset, .unset] [(.int (9 : Int32)), (.long i2), (.int (41 : Int32)), (.ref a1)])
  obtain ⟨T83, L83, v83, X83, ⟨rfl, rfl, q83⟩, st83⟩ := own_callS X82 hx hZ (y := (⟨"com/example/compensa/compensa/CheckDigitsGeneralDigitPinLaw", "dg", "(JI)C"⟩ : MethodName)) hown (hw _ (List.mem_of_getElem? (i := 1) rfl)) (hw _ (List.mem_of_getElem? (i := 2) rfl)) (hw _ (List.mem_of_getElem? (i := 3) rfl)) (hw _ (List.mem_of_getElem? (i := 4) rfl)) (by decide) (c_dg l Z a0 hw i2 (9 : Int32) h82) e82 (argsL := [(.long i2), (.int (9 : Int32))]) (rest := [(.int (41 : Int32)), (.ref a1)]) (g := (mkF m 452 #[.val (.long i0), .second, .val (.long i1), .second, .val (.long i2), .second, .val (.int i3), .val (.ref a1), .unset, .unset, .unset, .unset] [(.int (9 : Int32)), (.long i2), (.int (41 : Int32)), (.ref a1)])) rfl (by rw [hml]; rfl) (ps := [.long, .int]) (r := (some .char)) (by decide +kernel) rfl rfl (W := 2) (by show 2 * 0 + _ ≤ _; exact Nat.le_of_eq rfl) (hb hby at_452) (by decide) (by decide) (by decide) (by decide)
  have N83 := Fr.app N82 (Fr.nil n0)
  refine own_go st83 ?_
  show own_G p e below _ T83 (mkF m 455 #[.val (.long i0), .second, .val (.long i1), .second, .val (.long i2), .second, .val (.int i3), .val (.ref a1), .unset, .unset, .unset, .unset] [(.int (own_dg i2 (9 : Int32))), (.int (41 : Int32)), (.ref a1)])
  obtain ⟨T84, h84, X84, e84, W84, st84⟩ := stC X83 hx hZ q83 A82 (j := (41 : Int32)) (own_in (n := 44) rfl (by decide)) (g := (mkF m 455 #[.val (.long i0), .second, .val (.long i1), .second, .val (.long i2), .second, .val (.int i3), .val (.ref a1), .unset, .unset, .unset, .unset] [(.int (own_dg i2 (9 : Int32))), (.int (41 : Int32)), (.ref a1)])) rfl rfl (hb hby at_455)
  have A84 : Arr Z h84 a1 (own_cell c1 #[(.int (nar .char (own_dg i0 (0 : Int32)))), (.int (nar .char (own_dg i0 (1 : Int32)))), (.int (nar .char (own_dg i0 (2 : Int32)))), (.int (nar .char (own_dg i0 (3 : Int32)))), (.int (nar .char (i3 &&& (255 : Int32)).toUInt32.toUInt16.toUInt32.toInt32)), (.int (nar .char (own_dg i0 (5 : Int32)))), (.int (nar .char (own_dg i0 (6 : Int32)))), (.int (nar .char (own_dg i0 (7 : Int32)))), (.int (nar .char (own_dg i0 (8 : Int32)))), (.int (nar .char (own_dg i0 (9 : Int32)))), (.int (nar .char (own_dg i0 (10 : Int32)))), (.int (nar .char (own_dg i0 (11 : Int32)))), (.int (nar .char (own_dg i0 (12 : Int32)))), (.int (nar .char (own_dg i0 (13 : Int32)))), (.int (nar .char (own_dg i0 (14 : Int32)))), (.int (nar .char (own_dg i0 (15 : Int32)))), (.int (nar .char (own_dg i1 (0 : Int32)))), (.int (nar .char (own_dg i1 (1 : Int32)))), (.int (nar .char (own_dg i1 (2 : Int32)))), (.int (nar .char (own_dg i1 (3 : Int32)))), (.int (nar .char (own_dg i1 (4 : Int32)))), (.int (nar .char (own_dg i1 (5 : Int32)))), (.int (nar .char (own_dg i1 (6 : Int32)))), (.int (nar .char (own_dg i1 (7 : Int32)))), (.int (nar .char (own_dg i1 (8 : Int32)))), (.int (nar .char (own_dg i1 (9 : Int32)))), (.int (nar .char (own_dg i1 (10 : Int32)))), (.int (nar .char (own_dg i1 (11 : Int32)))), (.int (nar .char (own_dg i1 (12 : Int32)))), (.int (nar .char (own_dg i1 (13 : Int32)))), (.int (nar .char (own_dg i1 (14 : Int32)))), (.int (nar .char (own_dg i1 (15 : Int32)))), (.int (nar .char (own_dg i2 (0 : Int32)))), (.int (nar .char (own_dg i2 (1 : Int32)))), (.int (nar .char (own_dg i2 (2 : Int32)))), (.int (nar .char (own_dg i2 (3 : Int32)))), (.int (nar .char (own_dg i2 (4 : Int32)))), (.int (nar .char (own_dg i2 (5 : Int32)))), (.int (nar .char (own_dg i2 (6 : Int32)))), (.int (nar .char (own_dg i2 (7 : Int32)))), (.int (nar .char (own_dg i2 (8 : Int32)))), (.int (nar .char (own_dg i2 (9 : Int32)))), (.int 0), (.int 0)]) .char := A82.same W84
  have x84 : Ext h0 h84 := own_ext_wr x82 W84 j1
  have N84 := Fr.snoc X84 N83 (Nat.le_trans Z0 j1)
  refine own_go st84 ?_
  show own_G p e below _ T84 (mkF m 456 #[.val (.long i0), .second, .val (.long i1), .second, .val (.long i2), .second, .val (.int i3), .val (.ref a1), .unset, .unset, .unset, .unset] [])
  refine own_go (fun t k => XS.aload X84.here hx rfl (hb hby at_456) rfl rfl k) ?_
  show own_G p e below _ T84 (mkF m 458 #[.val (.long i0), .second, .val (.long i1), .second, .val (.long i2), .second, .val (.int i3), .val (.ref a1), .unset, .unset, .unset, .unset] [(.ref a1)])
  refine own_go (fun t k => XS.bipush X84.here hx rfl (hb hby at_458) k) ?_
  show own_G p e below _ T84 (mkF m 460 #[.val (.long i0), .second, .val (.long i1), .second, .val (.long i2), .second, .val (.int i3), .val (.ref a1), .unset, .unset, .unset, .unset] [(.int (42 : Int32)), (.ref a1)])
  refine own_go (fun t k => XT.lload X84.here hx rfl (hb hby at_460) rfl k) ?_
  show own_G p e below _ T84 (mkF m 462 #[.val (.long i0), .second, .val (.long i1), .second, .val (.long i2), .second, .val (.int i3), .val (.ref a1), .unset, .unset, .unset, .unset] [(.long i2), (.int (42 : Int32)), (.ref a1)])
  refine own_go (fun t k => XS.bipush X84.here hx rfl (hb hby at_462) k) ?_
  show own_G p e below _ T84 (mkF m 464 #[.val (.long i0), .second, .val (.long i1), .second, .val (.long i2), .second, .val (.int i3), .val (.ref a1), .unset, .unset, .unset, .unset] [(.int (10 : Int32)), (.long i2), (.int (42 : Int32)), (.ref a1)])
  obtain ⟨T85, L85, v85, X85, ⟨rfl, rfl, q85⟩, st85⟩ := own_callS X84 hx hZ (y := (⟨"com/example/compensa/compensa/CheckDigitsGeneralDigitPinLaw", "dg", "(JI)C"⟩ : MethodName)) hown (hw _ (List.mem_of_getElem? (i := 1) rfl)) (hw _ (List.mem_of_getElem? (i := 2) rfl)) (hw _ (List.mem_of_getElem? (i := 3) rfl)) (hw _ (List.mem_of_getElem? (i := 4) rfl)) (by decide) (c_dg l Z a0 hw i2 (10 : Int32) h84) e84 (argsL := [(.long i2), (.int (10 : Int32))]) (rest := [(.int (42 : Int32)), (.ref a1)]) (g := (mkF m 464 #[.val (.long i0), .second, .val (.long i1), .second, .val (.long i2), .second, .val (.int i3), .val (.ref a1), .unset, .unset, .unset, .unset] [(.int (10 : Int32)), (.long i2), (.int (42 : Int32)), (.ref a1)])) rfl (by rw [hml]; rfl) (ps := [.long, .int]) (r := (some .char)) (by decide +kernel) rfl rfl (W := 2) (by show 2 * 0 + _ ≤ _; exact Nat.le_of_eq rfl) (hb hby at_464) (by decide) (by decide) (by decide) (by decide)
  have N85 := Fr.app N84 (Fr.nil n0)
  refine own_go st85 ?_
  show own_G p e below _ T85 (mkF m 467 #[.val (.long i0), .second, .val (.long i1), .second, .val (.long i2), .second, .val (.int i3), .val (.ref a1), .unset, .unset, .unset, .unset] [(.int (own_dg i2 (10 : Int32))), (.int (42 : Int32)), (.ref a1)])
  obtain ⟨T86, h86, X86, e86, W86, st86⟩ := stC X85 hx hZ q85 A84 (j := (42 : Int32)) (own_in (n := 44) rfl (by decide)) (g := (mkF m 467 #[.val (.long i0), .second, .val (.long i1), .second, .val (.long i2), .second, .val (.int i3), .val (.ref a1), .unset, .unset, .unset, .unset] [(.int (own_dg i2 (10 : Int32))), (.int (42 : Int32)), (.ref a1)])) rfl rfl (hb hby at_467)
  have A86 : Arr Z h86 a1 (own_cell c1 #[(.int (nar .char (own_dg i0 (0 : Int32)))), (.int (nar .char (own_dg i0 (1 : Int32)))), (.int (nar .char (own_dg i0 (2 : Int32)))), (.int (nar .char (own_dg i0 (3 : Int32)))), (.int (nar .char (i3 &&& (255 : Int32)).toUInt32.toUInt16.toUInt32.toInt32)), (.int (nar .char (own_dg i0 (5 : Int32)))), (.int (nar .char (own_dg i0 (6 : Int32)))), (.int (nar .char (own_dg i0 (7 : Int32)))), (.int (nar .char (own_dg i0 (8 : Int32)))), (.int (nar .char (own_dg i0 (9 : Int32)))), (.int (nar .char (own_dg i0 (10 : Int32)))), (.int (nar .char (own_dg i0 (11 : Int32)))), (.int (nar .char (own_dg i0 (12 : Int32)))), (.int (nar .char (own_dg i0 (13 : Int32)))), (.int (nar .char (own_dg i0 (14 : Int32)))), (.int (nar .char (own_dg i0 (15 : Int32)))), (.int (nar .char (own_dg i1 (0 : Int32)))), (.int (nar .char (own_dg i1 (1 : Int32)))), (.int (nar .char (own_dg i1 (2 : Int32)))), (.int (nar .char (own_dg i1 (3 : Int32)))), (.int (nar .char (own_dg i1 (4 : Int32)))), (.int (nar .char (own_dg i1 (5 : Int32)))), (.int (nar .char (own_dg i1 (6 : Int32)))), (.int (nar .char (own_dg i1 (7 : Int32)))), (.int (nar .char (own_dg i1 (8 : Int32)))), (.int (nar .char (own_dg i1 (9 : Int32)))), (.int (nar .char (own_dg i1 (10 : Int32)))), (.int (nar .char (own_dg i1 (11 : Int32)))), (.int (nar .char (own_dg i1 (12 : Int32)))), (.int (nar .char (own_dg i1 (13 : Int32)))), (.int (nar .char (own_dg i1 (14 : Int32)))), (.int (nar .char (own_dg i1 (15 : Int32)))), (.int (nar .char (own_dg i2 (0 : Int32)))), (.int (nar .char (own_dg i2 (1 : Int32)))), (.int (nar .char (own_dg i2 (2 : Int32)))), (.int (nar .char (own_dg i2 (3 : Int32)))), (.int (nar .char (own_dg i2 (4 : Int32)))), (.int (nar .char (own_dg i2 (5 : Int32)))), (.int (nar .char (own_dg i2 (6 : Int32)))), (.int (nar .char (own_dg i2 (7 : Int32)))), (.int (nar .char (own_dg i2 (8 : Int32)))), (.int (nar .char (own_dg i2 (9 : Int32)))), (.int (nar .char (own_dg i2 (10 : Int32)))), (.int 0)]) .char := A84.same W86
  have x86 : Ext h0 h86 := own_ext_wr x84 W86 j1
  have N86 := Fr.snoc X86 N85 (Nat.le_trans Z0 j1)
  refine own_go st86 ?_
  show own_G p e below _ T86 (mkF m 468 #[.val (.long i0), .second, .val (.long i1), .second, .val (.long i2), .second, .val (.int i3), .val (.ref a1), .unset, .unset, .unset, .unset] [])
  refine own_go (fun t k => XS.aload X86.here hx rfl (hb hby at_468) rfl rfl k) ?_
  show own_G p e below _ T86 (mkF m 470 #[.val (.long i0), .second, .val (.long i1), .second, .val (.long i2), .second, .val (.int i3), .val (.ref a1), .unset, .unset, .unset, .unset] [(.ref a1)])
  refine own_go (fun t k => XS.bipush X86.here hx rfl (hb hby at_470) k) ?_
  show own_G p e below _ T86 (mkF m 472 #[.val (.long i0), .second, .val (.long i1), .second, .val (.long i2), .second, .val (.int i3), .val (.ref a1), .unset, .unset, .unset, .unset] [(.int (43 : Int32)), (.ref a1)])
  refine own_go (fun t k => XT.lload X86.here hx rfl (hb hby at_472) rfl k) ?_
  show own_G p e below _ T86 (mkF m 474 #[.val (.long i0), .second, .val (.long i1), .second, .val (.long i2), .second, .val (.int i3), .val (.ref a1), .unset, .unset, .unset, .unset] [(.long i2), (.int (43 : Int32)), (.ref a1)])
  refine own_go (fun t k => XS.bipush X86.here hx rfl (hb hby at_474) k) ?_
  show own_G p e below _ T86 (mkF m 476 #[.val (.long i0), .second, .val (.long i1), .second, .val (.long i2), .second, .val (.int i3), .val (.ref a1), .unset, .unset, .unset, .unset] [(.int (11 : Int32)), (.long i2), (.int (43 : Int32)), (.ref a1)])
  obtain ⟨T87, L87, v87, X87, ⟨rfl, rfl, q87⟩, st87⟩ := own_callS X86 hx hZ (y := (⟨"com/example/compensa/compensa/CheckDigitsGeneralDigitPinLaw", "dg", "(JI)C"⟩ : MethodName)) hown (hw _ (List.mem_of_getElem? (i := 1) rfl)) (hw _ (List.mem_of_getElem? (i := 2) rfl)) (hw _ (List.mem_of_getElem? (i := 3) rfl)) (hw _ (List.mem_of_getElem? (i := 4) rfl)) (by decide) (c_dg l Z a0 hw i2 (11 : Int32) h86) e86 (argsL := [(.long i2), (.int (11 : Int32))]) (rest := [(.int (43 : Int32)), (.ref a1)]) (g := (mkF m 476 #[.val (.long i0), .second, .val (.long i1), .second, .val (.long i2), .second, .val (.int i3), .val (.ref a1), .unset, .unset, .unset, .unset] [(.int (11 : Int32)), (.long i2), (.int (43 : Int32)), (.ref a1)])) rfl (by rw [hml]; rfl) (ps := [.long, .int]) (r := (some .char)) (by decide +kernel) rfl rfl (W := 2) (by show 2 * 0 + _ ≤ _; exact Nat.le_of_eq rfl) (hb hby at_476) (by decide) (by decide) (by decide) (by decide)
  have N87 := Fr.app N86 (Fr.nil n0)
  refine own_go st87 ?_
  show own_G p e below _ T87 (mkF m 479 #[.val (.long i0), .second, .val (.long i1), .second, .val (.long i2), .second, .val (.int i3), .val (.ref a1), .unset, .unset, .unset, .unset] [(.int (own_dg i2 (11 : Int32))), (.int (43 : Int32)), (.ref a1)])
  obtain ⟨T88, h88, X88, e88, W88, st88⟩ := stC X87 hx hZ q87 A86 (j := (43 : Int32)) (own_in (n := 44) rfl (by decide)) (g := (mkF m 479 #[.val (.long i0), .second, .val (.long i1), .second, .val (.long i2), .second, .val (.int i3), .val (.ref a1), .unset, .unset, .unset, .unset] [(.int (own_dg i2 (11 : Int32))), (.int (43 : Int32)), (.ref a1)])) rfl rfl (hb hby at_479)
  have A88 : Arr Z h88 a1 (own_cell c1 #[(.int (nar .char (own_dg i0 (0 : Int32)))), (.int (nar .char (own_dg i0 (1 : Int32)))), (.int (nar .char (own_dg i0 (2 : Int32)))), (.int (nar .char (own_dg i0 (3 : Int32)))), (.int (nar .char (i3 &&& (255 : Int32)).toUInt32.toUInt16.toUInt32.toInt32)), (.int (nar .char (own_dg i0 (5 : Int32)))), (.int (nar .char (own_dg i0 (6 : Int32)))), (.int (nar .char (own_dg i0 (7 : Int32)))), (.int (nar .char (own_dg i0 (8 : Int32)))), (.int (nar .char (own_dg i0 (9 : Int32)))), (.int (nar .char (own_dg i0 (10 : Int32)))), (.int (nar .char (own_dg i0 (11 : Int32)))), (.int (nar .char (own_dg i0 (12 : Int32)))), (.int (nar .char (own_dg i0 (13 : Int32)))), (.int (nar .char (own_dg i0 (14 : Int32)))), (.int (nar .char (own_dg i0 (15 : Int32)))), (.int (nar .char (own_dg i1 (0 : Int32)))), (.int (nar .char (own_dg i1 (1 : Int32)))), (.int (nar .char (own_dg i1 (2 : Int32)))), (.int (nar .char (own_dg i1 (3 : Int32)))), (.int (nar .char (own_dg i1 (4 : Int32)))), (.int (nar .char (own_dg i1 (5 : Int32)))), (.int (nar .char (own_dg i1 (6 : Int32)))), (.int (nar .char (own_dg i1 (7 : Int32)))), (.int (nar .char (own_dg i1 (8 : Int32)))), (.int (nar .char (own_dg i1 (9 : Int32)))), (.int (nar .char (own_dg i1 (10 : Int32)))), (.int (nar .char (own_dg i1 (11 : Int32)))), (.int (nar .char (own_dg i1 (12 : Int32)))), (.int (nar .char (own_dg i1 (13 : Int32)))), (.int (nar .char (own_dg i1 (14 : Int32)))), (.int (nar .char (own_dg i1 (15 : Int32)))), (.int (nar .char (own_dg i2 (0 : Int32)))), (.int (nar .char (own_dg i2 (1 : Int32)))), (.int (nar .char (own_dg i2 (2 : Int32)))), (.int (nar .char (own_dg i2 (3 : Int32)))), (.int (nar .char (own_dg i2 (4 : Int32)))), (.int (nar .char (own_dg i2 (5 : Int32)))), (.int (nar .char (own_dg i2 (6 : Int32)))), (.int (nar .char (own_dg i2 (7 : Int32)))), (.int (nar .char (own_dg i2 (8 : Int32)))), (.int (nar .char (own_dg i2 (9 : Int32)))), (.int (nar .char (own_dg i2 (10 : Int32)))), (.int (nar .char (own_dg i2 (11 : Int32))))]) .char := A86.same W88
  have x88 : Ext h0 h88 := own_ext_wr x86 W88 j1
  have N88 := Fr.snoc X88 N87 (Nat.le_trans Z0 j1)
  refine own_go st88 ?_
  show own_G p e below _ T88 (mkF m 480 #[.val (.long i0), .second, .val (.long i1), .second, .val (.long i2), .second, .val (.int i3), .val (.ref a1), .unset, .unset, .unset, .unset] [])
  obtain ⟨cl, hcl⟩ : ∃ z, z = own_cell c1 #[(.int (nar .char (own_dg i0 (0 : Int32)))), (.int (nar .char (own_dg i0 (1 : Int32)))), (.int (nar .char (own_dg i0 (2 : Int32)))), (.int (nar .char (own_dg i0 (3 : Int32)))), (.int (nar .char (i3 &&& (255 : Int32)).toUInt32.toUInt16.toUInt32.toInt32)), (.int (nar .char (own_dg i0 (5 : Int32)))), (.int (nar .char (own_dg i0 (6 : Int32)))), (.int (nar .char (own_dg i0 (7 : Int32)))), (.int (nar .char (own_dg i0 (8 : Int32)))), (.int (nar .char (own_dg i0 (9 : Int32)))), (.int (nar .char (own_dg i0 (10 : Int32)))), (.int (nar .char (own_dg i0 (11 : Int32)))), (.int (nar .char (own_dg i0 (12 : Int32)))), (.int (nar .char (own_dg i0 (13 : Int32)))), (.int (nar .char (own_dg i0 (14 : Int32)))), (.int (nar .char (own_dg i0 (15 : Int32)))), (.int (nar .char (own_dg i1 (0 : Int32)))), (.int (nar .char (own_dg i1 (1 : Int32)))), (.int (nar .char (own_dg i1 (2 : Int32)))), (.int (nar .char (own_dg i1 (3 : Int32)))), (.int (nar .char (own_dg i1 (4 : Int32)))), (.int (nar .char (own_dg i1 (5 : Int32)))), (.int (nar .char (own_dg i1 (6 : Int32)))), (.int (nar .char (own_dg i1 (7 : Int32)))), (.int (nar .char (own_dg i1 (8 : Int32)))), (.int (nar .char (own_dg i1 (9 : Int32)))), (.int (nar .char (own_dg i1 (10 : Int32)))), (.int (nar .char (own_dg i1 (11 : Int32)))), (.int (nar .char (own_dg i1 (12 : Int32)))), (.int (nar .char (own_dg i1 (13 : Int32)))), (.int (nar .char (own_dg i1 (14 : Int32)))), (.int (nar .char (own_dg i1 (15 : Int32)))), (.int (nar .char (own_dg i2 (0 : Int32)))), (.int (nar .char (own_dg i2 (1 : Int32)))), (.int (nar .char (own_dg i2 (2 : Int32)))), (.int (nar .char (own_dg i2 (3 : Int32)))), (.int (nar .char (own_dg i2 (4 : Int32)))), (.int (nar .char (own_dg i2 (5 : Int32)))), (.int (nar .char (own_dg i2 (6 : Int32)))), (.int (nar .char (own_dg i2 (7 : Int32)))), (.int (nar .char (own_dg i2 (8 : Int32)))), (.int (nar .char (own_dg i2 (9 : Int32)))), (.int (nar .char (own_dg i2 (10 : Int32)))), (.int (nar .char (own_dg i2 (11 : Int32))))] := ⟨_, rfl⟩
  rw [← hcl] at A88
  obtain ⟨W, hW⟩ : ∃ z, z = own_W i0 i1 i2 i3 := ⟨_, rfl⟩
  have hsz : cl.slots.size = 44 := by rw [hcl]; rfl
  have hat : ∀ i, i < 44 → cl.slots[i]? = some (.int (W i)) := by rw [hcl, hW]; exact own_hat c1 i0 i1 i2 i3
  have hB := own_accb W (by rw [hW]; exact own_Wb i0 i1 i2 i3) 44 (Nat.le_refl _)
  have hk := own_l11 (own_acc W 44 % 11) (own_rem _ 11 hB.1 (by decide)).1 (Int.lt_add_one_iff.mp (own_rem _ 11 hB.1 (by decide)).2)
  refine own_go (fun t k => XS.aload X88.here hx rfl (hb hby at_480) rfl rfl k) ?_
  show own_G p e below _ T88 (mkF m 482 #[.val (.long i0), .second, .val (.long i1), .second, .val (.long i2), .second, .val (.int i3), .val (.ref a1), .unset, .unset, .unset, .unset] [(.ref a1)])
  refine own_go (fun t k => XS.bipush X88.here hx rfl (hb hby at_482) k) ?_
  show own_G p e below _ T88 (mkF m 484 #[.val (.long i0), .second, .val (.long i1), .second, .val (.long i2), .second, .val (.int i3), .val (.ref a1), .unset, .unset, .unset, .unset] [(.int (43 : Int32)), (.ref a1)])
  obtain ⟨T90, L90, v90, X90, ⟨rfl, rfl, q90⟩, st90⟩ := own_callS X88 hx hZ (y := (⟨"com/example/compensa/compensa/CheckDigitsGeneralDigitPinLaw", "run8", "([CI)I"⟩ : MethodName)) hown (hw _ (List.mem_of_getElem? (i := 7) rfl)) (hw _ (List.mem_of_getElem? (i := 8) rfl)) (hw _ (List.mem_of_getElem? (i := 3) rfl)) (hw _ (List.mem_of_getElem? (i := 9) rfl)) (by decide) (c_run8_43 l Z a0 hw a1 cl W h88 A88 hsz hat) e88 (argsL := [(.ref a1), (.int (43 : Int32))]) (rest := []) (g := (mkF m 484 #[.val (.long i0), .second, .val (.long i1), .second, .val (.long i2), .second, .val (.int i3), .val (.ref a1), .unset, .unset, .unset, .unset] [(.int (43 : Int32)), (.ref a1)])) rfl (by rw [hml]; rfl) (ps := [(.array .char), .int]) (r := (some .int)) (by decide +kernel) rfl rfl (W := 0) (by show 2 * 0 + _ ≤ _; exact Nat.le_of_eq rfl) (hb hby at_484) (by decide) (by decide) (by decide) (by decide)
  have N90 := Fr.app N88 (Fr.nil n0)
  refine own_go st90 ?_
  show own_G p e below _ T90 (mkF m 487 #[.val (.long i0), .second, .val (.long i1), .second, .val (.long i2), .second, .val (.int i3), .val (.ref a1), .unset, .unset, .unset, .unset] [(.int (own_r8 W 43))])
  refine own_go (fun t k => XS.aload X90.here hx rfl (hb hby at_487) rfl rfl k) ?_
  show own_G p e below _ T90 (mkF m 489 #[.val (.long i0), .second, .val (.long i1), .second, .val (.long i2), .second, .val (.int i3), .val (.ref a1), .unset, .unset, .unset, .unset] [(.ref a1), (.int (own_r8 W 43))])
  refine own_go (fun t k => XS.bipush X90.here hx rfl (hb hby at_489) k) ?_
  show own_G p e below _ T90 (mkF m 491 #[.val (.long i0), .second, .val (.long i1), .second, .val (.long i2), .second, .val (.int i3), .val (.ref a1), .unset, .unset, .unset, .unset] [(.int (35 : Int32)), (.ref a1), (.int (own_r8 W 43))])
  obtain ⟨T91, L91, v91, X91, ⟨rfl, rfl, q91⟩, st91⟩ := own_callS X90 hx hZ (y := (⟨"com/example/compensa/compensa/CheckDigitsGeneralDigitPinLaw", "run8", "([CI)I"⟩ : MethodName)) hown (hw _ (List.mem_of_getElem? (i := 7) rfl)) (hw _ (List.mem_of_getElem? (i := 8) rfl)) (hw _ (List.mem_of_getElem? (i := 3) rfl)) (hw _ (List.mem_of_getElem? (i := 9) rfl)) (by decide) (c_run8_35 l Z a0 hw a1 cl W h88 A88 hsz hat) q90 (argsL := [(.ref a1), (.int (35 : Int32))]) (rest := [(.int (own_r8 W 43))]) (g := (mkF m 491 #[.val (.long i0), .second, .val (.long i1), .second, .val (.long i2), .second, .val (.int i3), .val (.ref a1), .unset, .unset, .unset, .unset] [(.int (35 : Int32)), (.ref a1), (.int (own_r8 W 43))])) rfl (by rw [hml]; rfl) (ps := [(.array .char), .int]) (r := (some .int)) (by decide +kernel) rfl rfl (W := 1) (by show 2 * 0 + _ ≤ _; exact Nat.le_of_eq rfl) (hb hby at_491) (by decide) (by decide) (by decide) (by decide)
  have N91 := Fr.app N90 (Fr.nil n0)
  refine own_go st91 ?_
  show own_G p e below _ T91 (mkF m 494 #[.val (.long i0), .second, .val (.long i1), .second, .val (.long i2), .second, .val (.int i3), .val (.ref a1), .unset, .unset, .unset, .unset] [(.int (own_r8 W 35)), (.int (own_r8 W 43))])
  refine own_go (fun t k => XS.iadd X91.here hx rfl (hb hby at_494) rfl k) ?_
  show own_G p e below _ T91 (mkF m 495 #[.val (.long i0), .second, .val (.long i1), .second, .val (.long i2), .second, .val (.int i3), .val (.ref a1), .unset, .unset, .unset, .unset] [(.int ((own_r8 W 43) + (own_r8 W 35)))])
  refine own_go (fun t k => XS.aload X91.here hx rfl (hb hby at_495) rfl rfl k) ?_
  show own_G p e below _ T91 (mkF m 497 #[.val (.long i0), .second, .val (.long i1), .second, .val (.long i2), .second, .val (.int i3), .val (.ref a1), .unset, .unset, .unset, .unset] [(.ref a1), (.int ((own_r8 W 43) + (own_r8 W 35)))])
  refine own_go (fun t k => XS.bipush X91.here hx rfl (hb hby at_497) k) ?_
  show own_G p e below _ T91 (mkF m 499 #[.val (.long i0), .second, .val (.long i1), .second, .val (.long i2), .second, .val (.int i3), .val (.ref a1), .unset, .unset, .unset, .unset] [(.int (27 : Int32)), (.ref a1), (.int ((own_r8 W 43) + (own_r8 W 35)))])
  obtain ⟨T92, L92, v92, X92, ⟨rfl, rfl, q92⟩, st92⟩ := own_callS X91 hx hZ (y := (⟨"com/example/compensa/compensa/CheckDigitsGeneralDigitPinLaw", "run8", "([CI)I"⟩ : MethodName)) hown (hw _ (List.mem_of_getElem? (i := 7) rfl)) (hw _ (List.mem_of_getElem? (i := 8) rfl)) (hw _ (List.mem_of_getElem? (i := 3) rfl)) (hw _ (List.mem_of_getElem? (i := 9) rfl)) (by decide) (c_run8_27 l Z a0 hw a1 cl W h88 A88 hsz hat) q91 (argsL := [(.ref a1), (.int (27 : Int32))]) (rest := [(.int ((own_r8 W 43) + (own_r8 W 35)))]) (g := (mkF m 499 #[.val (.long i0), .second, .val (.long i1), .second, .val (.long i2), .second, .val (.int i3), .val (.ref a1), .unset, .unset, .unset, .unset] [(.int (27 : Int32)), (.ref a1), (.int ((own_r8 W 43) + (own_r8 W 35)))])) rfl (by rw [hml]; rfl) (ps := [(.array .char), .int]) (r := (some .int)) (by decide +kernel) rfl rfl (W := 1) (by show 2 * 0 + _ ≤ _; exact Nat.le_of_eq rfl) (hb hby at_499) (by decide) (by decide) (by decide) (by decide)
  have N92 := Fr.app N91 (Fr.nil n0)
  refine own_go st92 ?_
  show own_G p e below _ T92 (mkF m 502 #[.val (.long i0), .second, .val (.long i1), .second, .val (.long i2), .second, .val (.int i3), .val (.ref a1), .unset, .unset, .unset, .unset] [(.int (own_r8 W 27)), (.int ((own_r8 W 43) + (own_r8 W 35)))])
  refine own_go (fun t k => XS.iadd X92.here hx rfl (hb hby at_502) rfl k) ?_
  show own_G p e below _ T92 (mkF m 503 #[.val (.long i0), .second, .val (.long i1), .second, .val (.long i2), .second, .val (.int i3), .val (.ref a1), .unset, .unset, .unset, .unset] [(.int (((own_r8 W 43) + (own_r8 W 35)) + (own_r8 W 27)))])
  refine own_go (fun t k => XS.aload X92.here hx rfl (hb hby at_503) rfl rfl k) ?_
  show own_G p e below _ T92 (mkF m 505 #[.val (.long i0), .second, .val (.long i1), .second, .val (.long i2), .second, .val (.int i3), .val (.ref a1), .unset, .unset, .unset, .unset] [(.ref a1), (.int (((own_r8 W 43) + (own_r8 W 35)) + (own_r8 W 27)))])
  refine own_go (fun t k => XS.bipush X92.here hx rfl (hb hby at_505) k) ?_
  show own_G p e below _ T92 (mkF m 507 #[.val (.long i0), .second, .val (.long i1), .second, .val (.long i2), .second, .val (.int i3), .val (.ref a1), .unset, .unset, .unset, .unset] [(.int (19 : Int32)), (.ref a1), (.int (((own_r8 W 43) + (own_r8 W 35)) + (own_r8 W 27)))])
  obtain ⟨T93, L93, v93, X93, ⟨rfl, rfl, q93⟩, st93⟩ := own_callS X92 hx hZ (y := (⟨"com/example/compensa/compensa/CheckDigitsGeneralDigitPinLaw", "run8", "([CI)I"⟩ : MethodName)) hown (hw _ (List.mem_of_getElem? (i := 7) rfl)) (hw _ (List.mem_of_getElem? (i := 8) rfl)) (hw _ (List.mem_of_getElem? (i := 3) rfl)) (hw _ (List.mem_of_getElem? (i := 9) rfl)) (by decide) (c_run8_19 l Z a0 hw a1 cl W h88 A88 hsz hat) q92 (argsL := [(.ref a1), (.int (19 : Int32))]) (rest := [(.int (((own_r8 W 43) + (own_r8 W 35)) + (own_r8 W 27)))]) (g := (mkF m 507 #[.val (.long i0), .second, .val (.long i1), .second, .val (.long i2), .second, .val (.int i3), .val (.ref a1), .unset, .unset, .unset, .unset] [(.int (19 : Int32)), (.ref a1), (.int (((own_r8 W 43) + (own_r8 W 35)) + (own_r8 W 27)))])) rfl (by rw [hml]; rfl) (ps := [(.array .char), .int]) (r := (some .int)) (by decide +kernel) rfl rfl (W := 1) (by show 2 * 0 + _ ≤ _; exact Nat.le_of_eq rfl) (hb hby at_507) (by decide) (by decide) (by decide) (by decide)
  have N93 := Fr.app N92 (Fr.nil n0)
  refine own_go st93 ?_
  show own_G p e below _ T93 (mkF m 510 #[.val (.long i0), .second, .val (.long i1), .second, .val (.long i2), .second, .val (.int i3), .val (.ref a1), .unset, .unset, .unset, .unset] [(.int (own_r8 W 19)), (.int (((own_r8 W 43) + (own_r8 W 35)) + (own_r8 W 27)))])
  refine own_go (fun t k => XS.iadd X93.here hx rfl (hb hby at_510) rfl k) ?_
  show own_G p e below _ T93 (mkF m 511 #[.val (.long i0), .second, .val (.long i1), .second, .val (.long i2), .second, .val (.int i3), .val (.ref a1), .unset, .unset, .unset, .unset] [(.int ((((own_r8 W 43) + (own_r8 W 35)) + (own_r8 W 27)) + (own_r8 W 19)))])
  refine own_go (fun t k => XS.aload X93.here hx rfl (hb hby at_511) rfl rfl k) ?_
  show own_G p e below _ T93 (mkF m 513 #[.val (.long i0), .second, .val (.long i1), .second, .val (.long i2), .second, .val (.int i3), .val (.ref a1), .unset, .unset, .unset, .unset] [(.ref a1), (.int ((((own_r8 W 43) + (own_r8 W 35)) + (own_r8 W 27)) + (own_r8 W 19)))])
  refine own_go (fun t k => XS.bipush X93.here hx rfl (hb hby at_513) k) ?_
  show own_G p e below _ T93 (mkF m 515 #[.val (.long i0), .second, .val (.long i1), .second, .val (.long i2), .second, .val (.int i3), .val (.ref a1), .unset, .unset, .unset, .unset] [(.int (11 : Int32)), (.ref a1), (.int ((((own_r8 W 43) + (own_r8 W 35)) + (own_r8 W 27)) + (own_r8 W 19)))])
  obtain ⟨T94, L94, v94, X94, ⟨rfl, rfl, q94⟩, st94⟩ := own_callS X93 hx hZ (y := (⟨"com/example/compensa/compensa/CheckDigitsGeneralDigitPinLaw", "run7", "([CI)I"⟩ : MethodName)) hown (hw _ (List.mem_of_getElem? (i := 10) rfl)) (hw _ (List.mem_of_getElem? (i := 11) rfl)) (hw _ (List.mem_of_getElem? (i := 3) rfl)) (hw _ (List.mem_of_getElem? (i := 12) rfl)) (by decide) (c_run7_11 l Z a0 hw a1 cl W h88 A88 hsz hat) q93 (argsL := [(.ref a1), (.int (11 : Int32))]) (rest := [(.int ((((own_r8 W 43) + (own_r8 W 35)) + (own_r8 W 27)) + (own_r8 W 19)))]) (g := (mkF m 515 #[.val (.long i0), .second, .val (.long i1), .second, .val (.long i2), .second, .val (.int i3), .val (.ref a1), .unset, .unset, .unset, .unset] [(.int (11 : Int32)), (.ref a1), (.int ((((own_r8 W 43) + (own_r8 W 35)) + (own_r8 W 27)) + (own_r8 W 19)))])) rfl (by rw [hml]; rfl) (ps := [(.array .char), .int]) (r := (some .int)) (by decide +kernel) rfl rfl (W := 1) (by show 2 * 0 + _ ≤ _; exact Nat.le_of_eq rfl) (hb hby at_515) (by decide) (by decide) (by decide) (by decide)
  have N94 := Fr.app N93 (Fr.nil n0)
  refine own_go st94 ?_
  show own_G p e below _ T94 (mkF m 518 #[.val (.long i0), .second, .val (.long i1), .second, .val (.long i2), .second, .val (.int i3), .val (.ref a1), .unset, .unset, .unset, .unset] [(.int (own_r7 W 11)), (.int ((((own_r8 W 43) + (own_r8 W 35)) + (own_r8 W 27)) + (own_r8 W 19)))])
  refine own_go (fun t k => XS.iadd X94.here hx rfl (hb hby at_518) rfl k) ?_
  show own_G p e below _ T94 (mkF m 519 #[.val (.long i0), .second, .val (.long i1), .second, .val (.long i2), .second, .val (.int i3), .val (.ref a1), .unset, .unset, .unset, .unset] [(.int (((((own_r8 W 43) + (own_r8 W 35)) + (own_r8 W 27)) + (own_r8 W 19)) + (own_r7 W 11)))])
  refine own_go (fun t k => XS.bipush X94.here hx rfl (hb hby at_519) k) ?_
  show own_G p e below _ T94 (mkF m 521 #[.val (.long i0), .second, .val (.long i1), .second, .val (.long i2), .second, .val (.int i3), .val (.ref a1), .unset, .unset, .unset, .unset] [(.int (9 : Int32)), (.int (((((own_r8 W 43) + (own_r8 W 35)) + (own_r8 W 27)) + (own_r8 W 19)) + (own_r7 W 11)))])
  refine own_go (fun t k => XS.aload X94.here hx rfl (hb hby at_521) rfl rfl k) ?_
  show own_G p e below _ T94 (mkF m 523 #[.val (.long i0), .second, .val (.long i1), .second, .val (.long i2), .second, .val (.int i3), .val (.ref a1), .unset, .unset, .unset, .unset] [(.ref a1), (.int (9 : Int32)), (.int (((((own_r8 W 43) + (own_r8 W 35)) + (own_r8 W 27)) + (own_r8 W 19)) + (own_r7 W 11)))])
  refine own_go (fun t k => XS.iconst X94.here hx rfl (hb hby at_523) k) ?_
  show own_G p e below _ T94 (mkF m 524 #[.val (.long i0), .second, .val (.long i1), .second, .val (.long i2), .second, .val (.int i3), .val (.ref a1), .unset, .unset, .unset, .unset] [(.int (3 : Int32)), (.ref a1), (.int (9 : Int32)), (.int (((((own_r8 W 43) + (own_r8 W 35)) + (own_r8 W 27)) + (own_r8 W 19)) + (own_r7 W 11)))])
  obtain ⟨T95, L95, v95, X95, ⟨rfl, rfl, q95⟩, st95⟩ := own_callS X94 hx hZ (y := (⟨"com/example/compensa/compensa/CheckDigitsGeneralDigitPinLaw", "d", "([CI)I"⟩ : MethodName)) hown (hw _ (List.mem_of_getElem? (i := 13) rfl)) (hw _ (List.mem_of_getElem? (i := 14) rfl)) (hw _ (List.mem_of_getElem? (i := 3) rfl)) (hw _ (List.mem_of_getElem? (i := 15) rfl)) (by decide) (c_d l Z a0 hw a1 cl (3 : Int32) (W 3) h88 A88 (own_in hsz (by decide)) (hat 3 (by decide))) q94 (argsL := [(.ref a1), (.int (3 : Int32))]) (rest := [(.int (9 : Int32)), (.int (((((own_r8 W 43) + (own_r8 W 35)) + (own_r8 W 27)) + (own_r8 W 19)) + (own_r7 W 11)))]) (g := (mkF m 524 #[.val (.long i0), .second, .val (.long i1), .second, .val (.long i2), .second, .val (.int i3), .val (.ref a1), .unset, .unset, .unset, .unset] [(.int (3 : Int32)), (.ref a1), (.int (9 : Int32)), (.int (((((own_r8 W 43) + (own_r8 W 35)) + (own_r8 W 27)) + (own_r8 W 19)) + (own_r7 W 11)))])) rfl (by rw [hml]; rfl) (ps := [(.array .char), .int]) (r := (some .int)) (by decide +kernel) rfl rfl (W := 2) (by show 2 * 0 + _ ≤ _; exact Nat.le_of_eq rfl) (hb hby at_524) (by decide) (by decide) (by decide) (by decide)
  have N95 := Fr.app N94 (Fr.nil n0)
  refine own_go st95 ?_
  show own_G p e below _ T95 (mkF m 527 #[.val (.long i0), .second, .val (.long i1), .second, .val (.long i2), .second, .val (.int i3), .val (.ref a1), .unset, .unset, .unset, .unset] [(.int (W 3 - (48 : Int32))), (.int (9 : Int32)), (.int (((((own_r8 W 43) + (own_r8 W 35)) + (own_r8 W 27)) + (own_r8 W 19)) + (own_r7 W 11)))])
  refine own_go (fun t k => XS.imul X95.here hx rfl (hb hby at_527) rfl k) ?_
  show own_G p e below _ T95 (mkF m 528 #[.val (.long i0), .second, .val (.long i1), .second, .val (.long i2), .second, .val (.int i3), .val (.ref a1), .unset, .unset, .unset, .unset] [(.int ((9 : Int32) * (W 3 - (48 : Int32)))), (.int (((((own_r8 W 43) + (own_r8 W 35)) + (own_r8 W 27)) + (own_r8 W 19)) + (own_r7 W 11)))])
  refine own_go (fun t k => XS.iadd X95.here hx rfl (hb hby at_528) rfl k) ?_
  show own_G p e below _ T95 (mkF m 529 #[.val (.long i0), .second, .val (.long i1), .second, .val (.long i2), .second, .val (.int i3), .val (.ref a1), .unset, .unset, .unset, .unset] [(.int ((((((own_r8 W 43) + (own_r8 W 35)) + (own_r8 W 27)) + (own_r8 W 19)) + (own_r7 W 11)) + ((9 : Int32) * (W 3 - (48 : Int32)))))])
  refine own_go (fun t k => XS.iconst X95.here hx rfl (hb hby at_529) k) ?_
  show own_G p e below _ T95 (mkF m 530 #[.val (.long i0), .second, .val (.long i1), .second, .val (.long i2), .second, .val (.int i3), .val (.ref a1), .unset, .unset, .unset, .unset] [(.int (2 : Int32)), (.int ((((((own_r8 W 43) + (own_r8 W 35)) + (own_r8 W 27)) + (own_r8 W 19)) + (own_r7 W 11)) + ((9 : Int32) * (W 3 - (48 : Int32)))))])
  refine own_go (fun t k => XS.aload X95.here hx rfl (hb hby at_530) rfl rfl k) ?_
  show own_G p e below _ T95 (mkF m 532 #[.val (.long i0), .second, .val (.long i1), .second, .val (.long i2), .second, .val (.int i3), .val (.ref a1), .unset, .unset, .unset, .unset] [(.ref a1), (.int (2 : Int32)), (.int ((((((own_r8 W 43) + (own_r8 W 35)) + (own_r8 W 27)) + (own_r8 W 19)) + (own_r7 W 11)) + ((9 : Int32) * (W 3 - (48 : Int32)))))])
  refine own_go (fun t k => XS.iconst X95.here hx rfl (hb hby at_532) k) ?_
  show own_G p e below _ T95 (mkF m 533 #[.val (.long i0), .second, .val (.long i1), .second, .val (.long i2), .second, .val (.int i3), .val (.ref a1), .unset, .unset, .unset, .unset] [(.int (2 : Int32)), (.ref a1), (.int (2 : Int32)), (.int ((((((own_r8 W 43) + (own_r8 W 35)) + (own_r8 W 27)) + (own_r8 W 19)) + (own_r7 W 11)) + ((9 : Int32) * (W 3 - (48 : Int32)))))])
  obtain ⟨T96, L96, v96, X96, ⟨rfl, rfl, q96⟩, st96⟩ := own_callS X95 hx hZ (y := (⟨"com/example/compensa/compensa/CheckDigitsGeneralDigitPinLaw", "d", "([CI)I"⟩ : MethodName)) hown (hw _ (List.mem_of_getElem? (i := 13) rfl)) (hw _ (List.mem_of_getElem? (i := 14) rfl)) (hw _ (List.mem_of_getElem? (i := 3) rfl)) (hw _ (List.mem_of_getElem? (i := 15) rfl)) (by decide) (c_d l Z a0 hw a1 cl (2 : Int32) (W 2) h88 A88 (own_in hsz (by decide)) (hat 2 (by decide))) q95 (argsL := [(.ref a1), (.int (2 : Int32))]) (rest := [(.int (2 : Int32)), (.int ((((((own_r8 W 43) + (own_r8 W 35)) + (own_r8 W 27)) + (own_r8 W 19)) + (own_r7 W 11)) + ((9 : Int32) * (W 3 - (48 : Int32)))))]) (g := (mkF m 533 #[.val (.long i0), .second, .val (.long i1), .second, .val (.long i2), .second, .val (.int i3), .val (.ref a1), .unset, .unset, .unset, .unset] [(.int (2 : Int32)), (.ref a1), (.int (2 : Int32)), (.int ((((((own_r8 W 43) + (own_r8 W 35)) + (own_r8 W 27)) + (own_r8 W 19)) + (own_r7 W 11)) + ((9 : Int32) * (W 3 - (48 : Int32)))))])) rfl (by rw [hml]; rfl) (ps := [(.array .char), .int]) (r := (some .int)) (by decide +kernel) rfl rfl (W := 2) (by show 2 * 0 + _ ≤ _; exact Nat.le_of_eq rfl) (hb hby at_533) (by decide) (by decide) (by decide) (by decide)
  have N96 := Fr.app N95 (Fr.nil n0)
  refine own_go st96 ?_
  show own_G p e below _ T96 (mkF m 536 #[.val (.long i0), .second, .val (.long i1), .second, .val (.long i2), .second, .val (.int i3), .val (.ref a1), .unset, .unset, .unset, .unset] [(.int (W 2 - (48 : Int32))), (.int (2 : Int32)), (.int ((((((own_r8 W 43) + (own_r8 W 35)) + (own_r8 W 27)) + (own_r8 W 19)) + (own_r7 W 11)) + ((9 : Int32) * (W 3 - (48 : Int32)))))])
  refine own_go (fun t k => XS.imul X96.here hx rfl (hb hby at_536) rfl k) ?_
  show own_G p e below _ T96 (mkF m 537 #[.val (.long i0), .second, .val (.long i1), .second, .val (.long i2), .second, .val (.int i3), .val (.ref a1), .unset, .unset, .unset, .unset] [(.int ((2 : Int32) * (W 2 - (48 : Int32)))), (.int ((((((own_r8 W 43) + (own_r8 W 35)) + (own_r8 W 27)) + (own_r8 W 19)) + (own_r7 W 11)) + ((9 : Int32) * (W 3 - (48 : Int32)))))])
  refine own_go (fun t k => XS.iadd X96.here hx rfl (hb hby at_537) rfl k) ?_
  show own_G p e below _ T96 (mkF m 538 #[.val (.long i0), .second, .val (.long i1), .second, .val (.long i2), .second, .val (.int i3), .val (.ref a1), .unset, .unset, .unset, .unset] [(.int (((((((own_r8 W 43) + (own_r8 W 35)) + (own_r8 W 27)) + (own_r8 W 19)) + (own_r7 W 11)) + ((9 : Int32) * (W 3 - (48 : Int32)))) + ((2 : Int32) * (W 2 - (48 : Int32)))))])
  refine own_go (fun t k => XS.iconst X96.here hx rfl (hb hby at_538) k) ?_
  show own_G p e below _ T96 (mkF m 539 #[.val (.long i0), .second, .val (.long i1), .second, .val (.long i2), .second, .val (.int i3), .val (.ref a1), .unset, .unset, .unset, .unset] [(.int (3 : Int32)), (.int (((((((own_r8 W 43) + (own_r8 W 35)) + (own_r8 W 27)) + (own_r8 W 19)) + (own_r7 W 11)) + ((9 : Int32) * (W 3 - (48 : Int32)))) + ((2 : Int32) * (W 2 - (48 : Int32)))))])
  refine own_go (fun t k => XS.aload X96.here hx rfl (hb hby at_539) rfl rfl k) ?_
  show own_G p e below _ T96 (mkF m 541 #[.val (.long i0), .second, .val (.long i1), .second, .val (.long i2), .second, .val (.int i3), .val (.ref a1), .unset, .unset, .unset, .unset] [(.ref a1), (.int (3 : Int32)), (.int (((((((own_r8 W 43) + (own_r8 W 35)) + (own_r8 W 27)) + (own_r8 W 19)) + (own_r7 W 11)) + ((9 : Int32) * (W 3 - (48 : Int32)))) + ((2 : Int32) * (W 2 - (48 : Int32)))))])
  refine own_go (fun t k => XS.iconst X96.here hx rfl (hb hby at_541) k) ?_
  show own_G p e below _ T96 (mkF m 542 #[.val (.long i0), .second, .val (.long i1), .second, .val (.long i2), .second, .val (.int i3), .val (.ref a1), .unset, .unset, .unset, .unset] [(.int (1 : Int32)), (.ref a1), (.int (3 : Int32)), (.int (((((((own_r8 W 43) + (own_r8 W 35)) + (own_r8 W 27)) + (own_r8 W 19)) + (own_r7 W 11)) + ((9 : Int32) * (W 3 - (48 : Int32)))) + ((2 : Int32) * (W 2 - (48 : Int32)))))])
  obtain ⟨T97, L97, v97, X97, ⟨rfl, rfl, q97⟩, st97⟩ := own_callS X96 hx hZ (y := (⟨"com/example/compensa/compensa/CheckDigitsGeneralDigitPinLaw", "d", "([CI)I"⟩ : MethodName)) hown (hw _ (List.mem_of_getElem? (i := 13) rfl)) (hw _ (List.mem_of_getElem? (i := 14) rfl)) (hw _ (List.mem_of_getElem? (i := 3) rfl)) (hw _ (List.mem_of_getElem? (i := 15) rfl)) (by decide) (c_d l Z a0 hw a1 cl (1 : Int32) (W 1) h88 A88 (own_in hsz (by decide)) (hat 1 (by decide))) q96 (argsL := [(.ref a1), (.int (1 : Int32))]) (rest := [(.int (3 : Int32)), (.int (((((((own_r8 W 43) + (own_r8 W 35)) + (own_r8 W 27)) + (own_r8 W 19)) + (own_r7 W 11)) + ((9 : Int32) * (W 3 - (48 : Int32)))) + ((2 : Int32) * (W 2 - (48 : Int32)))))]) (g := (mkF m 542 #[.val (.long i0), .second, .val (.long i1), .second, .val (.long i2), .second, .val (.int i3), .val (.ref a1), .unset, .unset, .unset, .unset] [(.int (1 : Int32)), (.ref a1), (.int (3 : Int32)), (.int (((((((own_r8 W 43) + (own_r8 W 35)) + (own_r8 W 27)) + (own_r8 W 19)) + (own_r7 W 11)) + ((9 : Int32) * (W 3 - (48 : Int32)))) + ((2 : Int32) * (W 2 - (48 : Int32)))))])) rfl (by rw [hml]; rfl) (ps := [(.array .char), .int]) (r := (some .int)) (by decide +kernel) rfl rfl (W := 2) (by show 2 * 0 + _ ≤ _; exact Nat.le_of_eq rfl) (hb hby at_542) (by decide) (by decide) (by decide) (by decide)
  have N97 := Fr.app N96 (Fr.nil n0)
  refine own_go st97 ?_
  show own_G p e below _ T97 (mkF m 545 #[.val (.long i0), .second, .val (.long i1), .second, .val (.long i2), .second, .val (.int i3), .val (.ref a1), .unset, .unset, .unset, .unset] [(.int (W 1 - (48 : Int32))), (.int (3 : Int32)), (.int (((((((own_r8 W 43) + (own_r8 W 35)) + (own_r8 W 27)) + (own_r8 W 19)) + (own_r7 W 11)) + ((9 : Int32) * (W 3 - (48 : Int32)))) + ((2 : Int32) * (W 2 - (48 : Int32)))))])
  refine own_go (fun t k => XS.imul X97.here hx rfl (hb hby at_545) rfl k) ?_
  show own_G p e below _ T97 (mkF m 546 #[.val (.long i0), .second, .val (.long i1), .second, .val (.long i2), .second, .val (.int i3), .val (.ref a1), .unset, .unset, .unset, .unset] [(.int ((3 : Int32) * (W 1 - (48 : Int32)))), (.int (((((((own_r8 W 43) + (own_r8 W 35)) + (own_r8 W 27)) + (own_r8 W 19)) + (own_r7 W 11)) + ((9 : Int32) * (W 3 - (48 : Int32)))) + ((2 : Int32) * (W 2 - (48 : Int32)))))])
  refine own_go (fun t k => XS.iadd X97.here hx rfl (hb hby at_546) rfl k) ?_
  show own_G p e below _ T97 (mkF m 547 #[.val (.long i0), .second, .val (.long i1), .second, .val (.long i2), .second, .val (.int i3), .val (.ref a1), .unset, .unset, .unset, .unset] [(.int ((((((((own_r8 W 43) + (own_r8 W 35)) + (own_r8 W 27)) + (own_r8 W 19)) + (own_r7 W 11)) + ((9 : Int32) * (W 3 - (48 : Int32)))) + ((2 : Int32) * (W 2 - (48 : Int32)))) + ((3 : Int32) * (W 1 - (48 : Int32)))))])
  refine own_go (fun t k => XS.iconst X97.here hx rfl (hb hby at_547) k) ?_
  show own_G p e below _ T97 (mkF m 548 #[.val (.long i0), .second, .val (.long i1), .second, .val (.long i2), .second, .val (.int i3), .val (.ref a1), .unset, .unset, .unset, .unset] [(.int (4 : Int32)), (.int ((((((((own_r8 W 43) + (own_r8 W 35)) + (own_r8 W 27)) + (own_r8 W 19)) + (own_r7 W 11)) + ((9 : Int32) * (W 3 - (48 : Int32)))) + ((2 : Int32) * (W 2 - (48 : Int32)))) + ((3 : Int32) * (W 1 - (48 : Int32)))))])
  refine own_go (fun t k => XS.aload X97.here hx rfl (hb hby at_548) rfl rfl k) ?_
  show own_G p e below _ T97 (mkF m 550 #[.val (.long i0), .second, .val (.long i1), .second, .val (.long i2), .second, .val (.int i3), .val (.ref a1), .unset, .unset, .unset, .unset] [(.ref a1), (.int (4 : Int32)), (.int ((((((((own_r8 W 43) + (own_r8 W 35)) + (own_r8 W 27)) + (own_r8 W 19)) + (own_r7 W 11)) + ((9 : Int32) * (W 3 - (48 : Int32)))) + ((2 : Int32) * (W 2 - (48 : Int32)))) + ((3 : Int32) * (W 1 - (48 : Int32)))))])
  refine own_go (fun t k => XS.iconst X97.here hx rfl (hb hby at_550) k) ?_
  show own_G p e below _ T97 (mkF m 551 #[.val (.long i0), .second, .val (.long i1), .second, .val (.long i2), .second, .val (.int i3), .val (.ref a1), .unset, .unset, .unset, .unset] [(.int (0 : Int32)), (.ref a1), (.int (4 : Int32)), (.int ((((((((own_r8 W 43) + (own_r8 W 35)) + (own_r8 W 27)) + (own_r8 W 19)) + (own_r7 W 11)) + ((9 : Int32) * (W 3 - (48 : Int32)))) + ((2 : Int32) * (W 2 - (48 : Int32)))) + ((3 : Int32) * (W 1 - (48 : Int32)))))])
  obtain ⟨T98, L98, v98, X98, ⟨rfl, rfl, q98⟩, st98⟩ := own_callS X97 hx hZ (y := (⟨"com/example/compensa/compensa/CheckDigitsGeneralDigitPinLaw", "d", "([CI)I"⟩ : MethodName)) hown (hw _ (List.mem_of_getElem? (i := 13) rfl)) (hw _ (List.mem_of_getElem? (i := 14) rfl)) (hw _ (List.mem_of_getElem? (i := 3) rfl)) (hw _ (List.mem_of_getElem? (i := 15) rfl)) (by decide) (c_d l Z a0 hw a1 cl (0 : Int32) (W 0) h88 A88 (own_in hsz (by decide)) (hat 0 (by decide))) q97 (argsL := [(.ref a1), (.int (0 : Int32))]) (rest := [(.int (4 : Int32)), (.int ((((((((own_r8 W 43) + (own_r8 W 35)) + (own_r8 W 27)) + (own_r8 W 19)) + (own_r7 W 11)) + ((9 : Int32) * (W 3 - (48 : Int32)))) + ((2 : Int32) * (W 2 - (48 : Int32)))) + ((3 : Int32) * (W 1 - (48 : Int32)))))]) (g := (mkF m 551 #[.val (.long i0), .second, .val (.long i1), .second, .val (.long i2), .second, .val (.int i3), .val (.ref a1), .unset, .unset, .unset, .unset] [(.int (0 : Int32)), (.ref a1), (.int (4 : Int32)), (.int ((((((((own_r8 W 43) + (own_r8 W 35)) + (own_r8 W 27)) + (own_r8 W 19)) + (own_r7 W 11)) + ((9 : Int32) * (W 3 - (48 : Int32)))) + ((2 : Int32) * (W 2 - (48 : Int32)))) + ((3 : Int32) * (W 1 - (48 : Int32)))))])) rfl (by rw [hml]; rfl) (ps := [(.array .char), .int]) (r := (some .int)) (by decide +kernel) rfl rfl (W := 2) (by show 2 * 0 + _ ≤ _; exact Nat.le_of_eq rfl) (hb hby at_551) (by decide) (by decide) (by decide) (by decide)
  have N98 := Fr.app N97 (Fr.nil n0)
  refine own_go st98 ?_
  show own_G p e below _ T98 (mkF m 554 #[.val (.long i0), .second, .val (.long i1), .second, .val (.long i2), .second, .val (.int i3), .val (.ref a1), .unset, .unset, .unset, .unset] [(.int (W 0 - (48 : Int32))), (.int (4 : Int32)), (.int ((((((((own_r8 W 43) + (own_r8 W 35)) + (own_r8 W 27)) + (own_r8 W 19)) + (own_r7 W 11)) + ((9 : Int32) * (W 3 - (48 : Int32)))) + ((2 : Int32) * (W 2 - (48 : Int32)))) + ((3 : Int32) * (W 1 - (48 : Int32)))))])
  refine own_go (fun t k => XS.imul X98.here hx rfl (hb hby at_554) rfl k) ?_
  show own_G p e below _ T98 (mkF m 555 #[.val (.long i0), .second, .val (.long i1), .second, .val (.long i2), .second, .val (.int i3), .val (.ref a1), .unset, .unset, .unset, .unset] [(.int ((4 : Int32) * (W 0 - (48 : Int32)))), (.int ((((((((own_r8 W 43) + (own_r8 W 35)) + (own_r8 W 27)) + (own_r8 W 19)) + (own_r7 W 11)) + ((9 : Int32) * (W 3 - (48 : Int32)))) + ((2 : Int32) * (W 2 - (48 : Int32)))) + ((3 : Int32) * (W 1 - (48 : Int32)))))])
  refine own_go (fun t k => XS.iadd X98.here hx rfl (hb hby at_555) rfl k) ?_
  show own_G p e below _ T98 (mkF m 556 #[.val (.long i0), .second, .val (.long i1), .second, .val (.long i2), .second, .val (.int i3), .val (.ref a1), .unset, .unset, .unset, .unset] [(.int (((((((((own_r8 W 43) + (own_r8 W 35)) + (own_r8 W 27)) + (own_r8 W 19)) + (own_r7 W 11)) + ((9 : Int32) * (W 3 - (48 : Int32)))) + ((2 : Int32) * (W 2 - (48 : Int32)))) + ((3 : Int32) * (W 1 - (48 : Int32)))) + ((4 : Int32) * (W 0 - (48 : Int32)))))])
  rw [own_sum W]
  show own_G p e below _ T98 (mkF m 556 #[.val (.long i0), .second, .val (.long i1), .second, .val (.long i2), .second, .val (.int i3), .val (.ref a1), .unset, .unset, .unset, .unset] [(.int (own_acc W 44))])
  refine own_go (fun t k => XS.istore X98.here hx rfl (hb hby at_556) rfl (l' := #[.val (.long i0), .second, .val (.long i1), .second, .val (.long i2), .second, .val (.int i3), .val (.ref a1), .val (.int (own_acc W 44)), .unset, .unset, .unset]) rfl k) ?_
  show own_G p e below _ T98 (mkF m 558 #[.val (.long i0), .second, .val (.long i1), .second, .val (.long i2), .second, .val (.int i3), .val (.ref a1), .val (.int (own_acc W 44)), .unset, .unset, .unset] [])
  refine own_go (fun t k => XS.iload X98.here hx rfl (hb hby at_558) rfl k) ?_
  show own_G p e below _ T98 (mkF m 560 #[.val (.long i0), .second, .val (.long i1), .second, .val (.long i2), .second, .val (.int i3), .val (.ref a1), .val (.int (own_acc W 44)), .unset, .unset, .unset] [(.int (own_acc W 44))])
  refine own_go (fun t k => XS.bipush X98.here hx rfl (hb hby at_560) k) ?_
  show own_G p e below _ T98 (mkF m 562 #[.val (.long i0), .second, .val (.long i1), .second, .val (.long i2), .second, .val (.int i3), .val (.ref a1), .val (.int (own_acc W 44)), .unset, .unset, .unset] [(.int (11 : Int32)), (.int (own_acc W 44))])
  refine own_go (fun t k => iremM X98 hx rfl (hb hby at_562) rfl (by decide) k) ?_
  show own_G p e below _ T98 (mkF m 563 #[.val (.long i0), .second, .val (.long i1), .second, .val (.long i2), .second, .val (.int i3), .val (.ref a1), .val (.int (own_acc W 44)), .unset, .unset, .unset] [(.int ((own_acc W 44) % (11 : Int32)))])
  rcases hk with hk99 | hk99 | hk99 | hk99 | hk99 | hk99 | hk99 | hk99 | hk99 | hk99 | hk99
  · rw [hk99]
    show own_G p e below _ T98 (mkF m 563 #[.val (.long i0), .second, .val (.long i1), .second, .val (.long i2), .second, .val (.int i3), .val (.ref a1), .val (.int (own_acc W 44)), .unset, .unset, .unset] [(.int (0 : Int32))])
    refine own_go (fun t k => XS.istore X98.here hx rfl (hb hby at_563) rfl (l' := #[.val (.long i0), .second, .val (.long i1), .second, .val (.long i2), .second, .val (.int i3), .val (.ref a1), .val (.int (own_acc W 44)), .val (.int (0 : Int32)), .unset, .unset]) rfl k) ?_
    show own_G p e below _ T98 (mkF m 565 #[.val (.long i0), .second, .val (.long i1), .second, .val (.long i2), .second, .val (.int i3), .val (.ref a1), .val (.int (own_acc W 44)), .val (.int (0 : Int32)), .unset, .unset] [])
    refine own_go (fun t k => XS.iload X98.here hx rfl (hb hby at_565) rfl k) ?_
    show own_G p e below _ T98 (mkF m 567 #[.val (.long i0), .second, .val (.long i1), .second, .val (.long i2), .second, .val (.int i3), .val (.ref a1), .val (.int (own_acc W 44)), .val (.int (0 : Int32)), .unset, .unset] [(.int (0 : Int32))])
    refine own_go (fun t k => XS.iconst X98.here hx rfl (hb hby at_567) k) ?_
    show own_G p e below _ T98 (mkF m 568 #[.val (.long i0), .second, .val (.long i1), .second, .val (.long i2), .second, .val (.int i3), .val (.ref a1), .val (.int (own_acc W 44)), .val (.int (0 : Int32)), .unset, .unset] [(.int (1 : Int32)), (.int (0 : Int32))])
    refine own_go (fun t k => XS.icmpNo X98.here hx rfl (hb hby at_568) rfl (by decide) k) ?_
    show own_G p e below _ T98 (mkF m 571 #[.val (.long i0), .second, .val (.long i1), .second, .val (.long i2), .second, .val (.int i3), .val (.ref a1), .val (.int (own_acc W 44)), .val (.int (0 : Int32)), .unset, .unset] [])
    refine own_go (fun t k => XS.iconst X98.here hx rfl (hb hby at_571) k) ?_
    show own_G p e below _ T98 (mkF m 572 #[.val (.long i0), .second, .val (.long i1), .second, .val (.long i2), .second, .val (.int i3), .val (.ref a1), .val (.int (own_acc W 44)), .val (.int (0 : Int32)), .unset, .unset] [(.int (1 : Int32))])
    refine own_go (fun t k => XS.goto X98.here hx rfl (pc0 := 572) (pc' := 580) rfl (hb hby at_572) (by decide) (by decide) k) ?_
    show own_G p e below _ T98 (mkF m 580 #[.val (.long i0), .second, .val (.long i1), .second, .val (.long i2), .second, .val (.int i3), .val (.ref a1), .val (.int (own_acc W 44)), .val (.int (0 : Int32)), .unset, .unset] [(.int (1 : Int32))])
    refine own_go (fun t k => XS.istore X98.here hx rfl (hb hby at_580) rfl (l' := #[.val (.long i0), .second, .val (.long i1), .second, .val (.long i2), .second, .val (.int i3), .val (.ref a1), .val (.int (own_acc W 44)), .val (.int (0 : Int32)), .val (.int (1 : Int32)), .unset]) rfl k) ?_
    show own_G p e below _ T98 (mkF m 582 #[.val (.long i0), .second, .val (.long i1), .second, .val (.long i2), .second, .val (.int i3), .val (.ref a1), .val (.int (own_acc W 44)), .val (.int (0 : Int32)), .val (.int (1 : Int32)), .unset] [])
    refine own_go (fun t k => XS.aload X98.here hx rfl (hb hby at_582) rfl rfl k) ?_
    show own_G p e below _ T98 (mkF m 584 #[.val (.long i0), .second, .val (.long i1), .second, .val (.long i2), .second, .val (.int i3), .val (.ref a1), .val (.int (own_acc W 44)), .val (.int (0 : Int32)), .val (.int (1 : Int32)), .unset] [(.ref a1)])
    obtain ⟨T100, L100, v100, X100, ⟨rfl, rfl, q100⟩, st100⟩ := own_callS X98 hx hZ (y := (⟨"com/example/compensa/compensa/CheckDigits", "generalDigit", "([C)I"⟩ : MethodName)) hown (hw _ (List.mem_of_getElem? (i := 16) rfl)) (hw _ (List.mem_of_getElem? (i := 17) rfl)) (hw _ (List.mem_of_getElem? (i := 18) rfl)) (hw _ (List.mem_of_getElem? (i := 19) rfl)) (by decide) (c_gd l Z a0 hw a_GENERAL_DIGIT_WEIGHTS cl_GENERAL_DIGIT_WEIGHTS a1 cl W h88 (own_B_ext x88 B) A88 hsz hat) q98 (argsL := [(.ref a1)]) (rest := []) (g := (mkF m 584 #[.val (.long i0), .second, .val (.long i1), .second, .val (.long i2), .second, .val (.int i3), .val (.ref a1), .val (.int (own_acc W 44)), .val (.int (0 : Int32)), .val (.int (1 : Int32)), .unset] [(.ref a1)])) rfl (by rw [hml]; rfl) (ps := [(.array .char)]) (r := (some .int)) (by decide +kernel) rfl rfl (W := 0) (by show 2 * 0 + _ ≤ _; exact Nat.le_of_eq rfl) (hb hby at_584) (by decide) (by decide) (by decide) (by decide)
    have N100 := Fr.app N98 (Fr.nil n0)
    refine own_go st100 ?_
    show own_G p e below _ T100 (mkF m 587 #[.val (.long i0), .second, .val (.long i1), .second, .val (.long i2), .second, .val (.int i3), .val (.ref a1), .val (.int (own_acc W 44)), .val (.int (0 : Int32)), .val (.int (1 : Int32)), .unset] [(.int (own_g (own_acc W 44)))])
    have r101 : own_g (own_acc W 44) = (1 : Int32) := by unfold own_g; rw [hk99]; decide
    rw [r101]
    show own_G p e below _ T100 (mkF m 587 #[.val (.long i0), .second, .val (.long i1), .second, .val (.long i2), .second, .val (.int i3), .val (.ref a1), .val (.int (own_acc W 44)), .val (.int (0 : Int32)), .val (.int (1 : Int32)), .unset] [(.int (1 : Int32))])
    refine own_go (fun t k => XS.istore X100.here hx rfl (hb hby at_587) rfl (l' := #[.val (.long i0), .second, .val (.long i1), .second, .val (.long i2), .second, .val (.int i3), .val (.ref a1), .val (.int (own_acc W 44)), .val (.int (0 : Int32)), .val (.int (1 : Int32)), .val (.int (1 : Int32))]) rfl k) ?_
    show own_G p e below _ T100 (mkF m 589 #[.val (.long i0), .second, .val (.long i1), .second, .val (.long i2), .second, .val (.int i3), .val (.ref a1), .val (.int (own_acc W 44)), .val (.int (0 : Int32)), .val (.int (1 : Int32)), .val (.int (1 : Int32))] [])
    refine own_go (fun t k => XS.iload X100.here hx rfl (hb hby at_589) rfl k) ?_
    show own_G p e below _ T100 (mkF m 591 #[.val (.long i0), .second, .val (.long i1), .second, .val (.long i2), .second, .val (.int i3), .val (.ref a1), .val (.int (own_acc W 44)), .val (.int (0 : Int32)), .val (.int (1 : Int32)), .val (.int (1 : Int32))] [(.int (1 : Int32))])
    refine own_go (fun t k => XS.iload X100.here hx rfl (hb hby at_591) rfl k) ?_
    show own_G p e below _ T100 (mkF m 593 #[.val (.long i0), .second, .val (.long i1), .second, .val (.long i2), .second, .val (.int i3), .val (.ref a1), .val (.int (own_acc W 44)), .val (.int (0 : Int32)), .val (.int (1 : Int32)), .val (.int (1 : Int32))] [(.int (1 : Int32)), (.int (1 : Int32))])
    refine own_go (fun t k => XS.icmpNo X100.here hx rfl (hb hby at_593) rfl (by decide) k) ?_
    show own_G p e below _ T100 (mkF m 596 #[.val (.long i0), .second, .val (.long i1), .second, .val (.long i2), .second, .val (.int i3), .val (.ref a1), .val (.int (own_acc W 44)), .val (.int (0 : Int32)), .val (.int (1 : Int32)), .val (.int (1 : Int32))] [])
    refine own_go (fun t k => XS.iload X100.here hx rfl (hb hby at_596) rfl k) ?_
    show own_G p e below _ T100 (mkF m 598 #[.val (.long i0), .second, .val (.long i1), .second, .val (.long i2), .second, .val (.int i3), .val (.ref a1), .val (.int (own_acc W 44)), .val (.int (0 : Int32)), .val (.int (1 : Int32)), .val (.int (1 : Int32))] [(.int (1 : Int32))])
    refine own_go (fun t k => XS.iconst X100.here hx rfl (hb hby at_598) k) ?_
    show own_G p e below _ T100 (mkF m 599 #[.val (.long i0), .second, .val (.long i1), .second, .val (.long i2), .second, .val (.int i3), .val (.ref a1), .val (.int (own_acc W 44)), .val (.int (0 : Int32)), .val (.int (1 : Int32)), .val (.int (1 : Int32))] [(.int (1 : Int32)), (.int (1 : Int32))])
    refine own_go (fun t k => XS.icmpNo X100.here hx rfl (hb hby at_599) rfl (by decide) k) ?_
    show own_G p e below _ T100 (mkF m 602 #[.val (.long i0), .second, .val (.long i1), .second, .val (.long i2), .second, .val (.int i3), .val (.ref a1), .val (.int (own_acc W 44)), .val (.int (0 : Int32)), .val (.int (1 : Int32)), .val (.int (1 : Int32))] [])
    refine own_go (fun t k => XS.iload X100.here hx rfl (hb hby at_602) rfl k) ?_
    show own_G p e below _ T100 (mkF m 604 #[.val (.long i0), .second, .val (.long i1), .second, .val (.long i2), .second, .val (.int i3), .val (.ref a1), .val (.int (own_acc W 44)), .val (.int (0 : Int32)), .val (.int (1 : Int32)), .val (.int (1 : Int32))] [(.int (1 : Int32))])
    refine own_go (fun t k => XS.bipush X100.here hx rfl (hb hby at_604) k) ?_
    show own_G p e below _ T100 (mkF m 606 #[.val (.long i0), .second, .val (.long i1), .second, .val (.long i2), .second, .val (.int i3), .val (.ref a1), .val (.int (own_acc W 44)), .val (.int (0 : Int32)), .val (.int (1 : Int32)), .val (.int (1 : Int32))] [(.int (9 : Int32)), (.int (1 : Int32))])
    refine own_go (fun t k => XS.icmpNo X100.here hx rfl (hb hby at_606) rfl (by decide) k) ?_
    show own_G p e below _ T100 (mkF m 609 #[.val (.long i0), .second, .val (.long i1), .second, .val (.long i2), .second, .val (.int i3), .val (.ref a1), .val (.int (own_acc W 44)), .val (.int (0 : Int32)), .val (.int (1 : Int32)), .val (.int (1 : Int32))] [])
    refine own_go (fun t k => XS.iconst X100.here hx rfl (hb hby at_609) k) ?_
    show own_G p e below _ T100 (mkF m 610 #[.val (.long i0), .second, .val (.long i1), .second, .val (.long i2), .second, .val (.int i3), .val (.ref a1), .val (.int (own_acc W 44)), .val (.int (0 : Int32)), .val (.int (1 : Int32)), .val (.int (1 : Int32))] [(.int (1 : Int32))])
    refine own_go (fun t k => XS.goto X100.here hx rfl (pc0 := 610) (pc' := 614) rfl (hb hby at_610) (by decide) (by decide) k) ?_
    show own_G p e below _ T100 (mkF m 614 #[.val (.long i0), .second, .val (.long i1), .second, .val (.long i2), .second, .val (.int i3), .val (.ref a1), .val (.int (own_acc W 44)), .val (.int (0 : Int32)), .val (.int (1 : Int32)), .val (.int (1 : Int32))] [(.int (1 : Int32))])
    exact own_retN X100 hx hlk hret (by simp) (hb hby at_614) (by decide) (by decide) ⟨rfl, N100⟩
  · rw [hk99]
    show own_G p e below _ T98 (mkF m 563 #[.val (.long i0), .second, .val (.long i1), .second, .val (.long i2), .second, .val (.int i3), .val (.ref a1), .val (.int (own_acc W 44)), .unset, .unset, .unset] [(.int (1 : Int32))])
    refine own_go (fun t k => XS.istore X98.here hx rfl (hb hby at_563) rfl (l' := #[.val (.long i0), .second, .val (.long i1), .second, .val (.long i2), .second, .val (.int i3), .val (.ref a1), .val (.int (own_acc W 44)), .val (.int (1 : Int32)), .unset, .unset]) rfl k) ?_
    show own_G p e below _ T98 (mkF m 565 #[.val (.long i0), .second, .val (.long i1), .second, .val (.long i2), .second, .val (.int i3), .val (.ref a1), .val (.int (own_acc W 44)), .val (.int (1 : Int32)), .unset, .unset] [])
    refine own_go (fun t k => XS.iload X98.here hx rfl (hb hby at_565) rfl k) ?_
    show own_G p e below _ T98 (mkF m 567 #[.val (.long i0), .second, .val (.long i1), .second, .val (.long i2), .second, .val (.int i3), .val (.ref a1), .val (.int (own_acc W 44)), .val (.int (1 : Int32)), .unset, .unset] [(.int (1 : Int32))])
    refine own_go (fun t k => XS.iconst X98.here hx rfl (hb hby at_567) k) ?_
    show own_G p e below _ T98 (mkF m 568 #[.val (.long i0), .second, .val (.long i1), .second, .val (.long i2), .second, .val (.int i3), .val (.ref a1), .val (.int (own_acc W 44)), .val (.int (1 : Int32)), .unset, .unset] [(.int (1 : Int32)), (.int (1 : Int32))])
    refine own_go (fun t k => XS.icmpNo X98.here hx rfl (hb hby at_568) rfl (by decide) k) ?_
    show own_G p e below _ T98 (mkF m 571 #[.val (.long i0), .second, .val (.long i1), .second, .val (.long i2), .second, .val (.int i3), .val (.ref a1), .val (.int (own_acc W 44)), .val (.int (1 : Int32)), .unset, .unset] [])
    refine own_go (fun t k => XS.iconst X98.here hx rfl (hb hby at_571) k) ?_
    show own_G p e below _ T98 (mkF m 572 #[.val (.long i0), .second, .val (.long i1), .second, .val (.long i2), .second, .val (.int i3), .val (.ref a1), .val (.int (own_acc W 44)), .val (.int (1 : Int32)), .unset, .unset] [(.int (1 : Int32))])
    refine own_go (fun t k => XS.goto X98.here hx rfl (pc0 := 572) (pc' := 580) rfl (hb hby at_572) (by decide) (by decide) k) ?_
    show own_G p e below _ T98 (mkF m 580 #[.val (.long i0), .second, .val (.long i1), .second, .val (.long i2), .second, .val (.int i3), .val (.ref a1), .val (.int (own_acc W 44)), .val (.int (1 : Int32)), .unset, .unset] [(.int (1 : Int32))])
    refine own_go (fun t k => XS.istore X98.here hx rfl (hb hby at_580) rfl (l' := #[.val (.long i0), .second, .val (.long i1), .second, .val (.long i2), .second, .val (.int i3), .val (.ref a1), .val (.int (own_acc W 44)), .val (.int (1 : Int32)), .val (.int (1 : Int32)), .unset]) rfl k) ?_
    show own_G p e below _ T98 (mkF m 582 #[.val (.long i0), .second, .val (.long i1), .second, .val (.long i2), .second, .val (.int i3), .val (.ref a1), .val (.int (own_acc W 44)), .val (.int (1 : Int32)), .val (.int (1 : Int32)), .unset] [])
    refine own_go (fun t k => XS.aload X98.here hx rfl (hb hby at_582) rfl rfl k) ?_
    show own_G p e below _ T98 (mkF m 584 #[.val (.long i0), .second, .val (.long i1), .second, .val (.long i2), .second, .val (.int i3), .val (.ref a1), .val (.int (own_acc W 44)), .val (.int (1 : Int32)), .val (.int (1 : Int32)), .unset] [(.ref a1)])
    obtain ⟨T102, L102, v102, X102, ⟨rfl, rfl, q102⟩, st102⟩ := own_callS X98 hx hZ (y := (⟨"com/example/compensa/compensa/CheckDigits", "generalDigit", "([C)I"⟩ : MethodName)) hown (hw _ (List.mem_of_getElem? (i := 16) rfl)) (hw _ (List.mem_of_getElem? (i := 17) rfl)) (hw _ (List.mem_of_getElem? (i := 18) rfl)) (hw _ (List.mem_of_getElem? (i := 19) rfl)) (by decide) (c_gd l Z a0 hw a_GENERAL_DIGIT_WEIGHTS cl_GENERAL_DIGIT_WEIGHTS a1 cl W h88 (own_B_ext x88 B) A88 hsz hat) q98 (argsL := [(.ref a1)]) (rest := []) (g := (mkF m 584 #[.val (.long i0), .second, .val (.long i1), .second, .val (.long i2), .second, .val (.int i3), .val (.ref a1), .val (.int (own_acc W 44)), .val (.int (1 : Int32)), .val (.int (1 : Int32)), .unset] [(.ref a1)])) rfl (by rw [hml]; rfl) (ps := [(.array .char)]) (r := (some .int)) (by decide +kernel) rfl rfl (W := 0) (by show 2 * 0 + _ ≤ _; exact Nat.le_of_eq rfl) (hb hby at_584) (by decide) (by decide) (by decide) (by decide)
    have N102 := Fr.app N98 (Fr.nil n0)
    refine own_go st102 ?_
    show own_G p e below _ T102 (mkF m 587 #[.val (.long i0), .second, .val (.long i1), .second, .val (.long i2), .second, .val (.int i3), .val (.ref a1), .val (.int (own_acc W 44)), .val (.int (1 : Int32)), .val (.int (1 : Int32)), .unset] [(.int (own_g (own_acc W 44)))])
    have r103 : own_g (own_acc W 44) = (1 : Int32) := by unfold own_g; rw [hk99]; decide
    rw [r103]
    show own_G p e below _ T102 (mkF m 587 #[.val (.long i0), .second, .val (.long i1), .second, .val (.long i2), .second, .val (.int i3), .val (.ref a1), .val (.int (own_acc W 44)), .val (.int (1 : Int32)), .val (.int (1 : Int32)), .unset] [(.int (1 : Int32))])
    refine own_go (fun t k => XS.istore X102.here hx rfl (hb hby at_587) rfl (l' := #[.val (.long i0), .second, .val (.long i1), .second, .val (.long i2), .second, .val (.int i3), .val (.ref a1), .val (.int (own_acc W 44)), .val (.int (1 : Int32)), .val (.int (1 : Int32)), .val (.int (1 : Int32))]) rfl k) ?_
    show own_G p e below _ T102 (mkF m 589 #[.val (.long i0), .second, .val (.long i1), .second, .val (.long i2), .second, .val (.int i3), .val (.ref a1), .val (.int (own_acc W 44)), .val (.int (1 : Int32)), .val (.int (1 : Int32)), .val (.int (1 : Int32))] [])
    refine own_go (fun t k => XS.iload X102.here hx rfl (hb hby at_589) rfl k) ?_
    show own_G p e below _ T102 (mkF m 591 #[.val (.long i0), .second, .val (.long i1), .second, .val (.long i2), .second, .val (.int i3), .val (.ref a1), .val (.int (own_acc W 44)), .val (.int (1 : Int32)), .val (.int (1 : Int32)), .val (.int (1 : Int32))] [(.int (1 : Int32))])
    refine own_go (fun t k => XS.iload X102.here hx rfl (hb hby at_591) rfl k) ?_
    show own_G p e below _ T102 (mkF m 593 #[.val (.long i0), .second, .val (.long i1), .second, .val (.long i2), .second, .val (.int i3), .val (.ref a1), .val (.int (own_acc W 44)), .val (.int (1 : Int32)), .val (.int (1 : Int32)), .val (.int (1 : Int32))] [(.int (1 : Int32)), (.int (1 : Int32))])
    refine own_go (fun t k => XS.icmpNo X102.here hx rfl (hb hby at_593) rfl (by decide) k) ?_
    show own_G p e below _ T102 (mkF m 596 #[.val (.long i0), .second, .val (.long i1), .second, .val (.long i2), .second, .val (.int i3), .val (.ref a1), .val (.int (own_acc W 44)), .val (.int (1 : Int32)), .val (.int (1 : Int32)), .val (.int (1 : Int32))] [])
    refine own_go (fun t k => XS.iload X102.here hx rfl (hb hby at_596) rfl k) ?_
    show own_G p e below _ T102 (mkF m 598 #[.val (.long i0), .second, .val (.long i1), .second, .val (.long i2), .second, .val (.int i3), .val (.ref a1), .val (.int (own_acc W 44)), .val (.int (1 : Int32)), .val (.int (1 : Int32)), .val (.int (1 : Int32))] [(.int (1 : Int32))])
    refine own_go (fun t k => XS.iconst X102.here hx rfl (hb hby at_598) k) ?_
    show own_G p e below _ T102 (mkF m 599 #[.val (.long i0), .second, .val (.long i1), .second, .val (.long i2), .second, .val (.int i3), .val (.ref a1), .val (.int (own_acc W 44)), .val (.int (1 : Int32)), .val (.int (1 : Int32)), .val (.int (1 : Int32))] [(.int (1 : Int32)), (.int (1 : Int32))])
    refine own_go (fun t k => XS.icmpNo X102.here hx rfl (hb hby at_599) rfl (by decide) k) ?_
    show own_G p e below _ T102 (mkF m 602 #[.val (.long i0), .second, .val (.long i1), .second, .val (.long i2), .second, .val (.int i3), .val (.ref a1), .val (.int (own_acc W 44)), .val (.int (1 : Int32)), .val (.int (1 : Int32)), .val (.int (1 : Int32))] [])
    refine own_go (fun t k => XS.iload X102.here hx rfl (hb hby at_602) rfl k) ?_
    show own_G p e below _ T102 (mkF m 604 #[.val (.long i0), .second, .val (.long i1), .second, .val (.long i2), .second, .val (.int i3), .val (.ref a1), .val (.int (own_acc W 44)), .val (.int (1 : Int32)), .val (.int (1 : Int32)), .val (.int (1 : Int32))] [(.int (1 : Int32))])
    refine own_go (fun t k => XS.bipush X102.here hx rfl (hb hby at_604) k) ?_
    show own_G p e below _ T102 (mkF m 606 #[.val (.long i0), .second, .val (.long i1), .second, .val (.long i2), .second, .val (.int i3), .val (.ref a1), .val (.int (own_acc W 44)), .val (.int (1 : Int32)), .val (.int (1 : Int32)), .val (.int (1 : Int32))] [(.int (9 : Int32)), (.int (1 : Int32))])
    refine own_go (fun t k => XS.icmpNo X102.here hx rfl (hb hby at_606) rfl (by decide) k) ?_
    show own_G p e below _ T102 (mkF m 609 #[.val (.long i0), .second, .val (.long i1), .second, .val (.long i2), .second, .val (.int i3), .val (.ref a1), .val (.int (own_acc W 44)), .val (.int (1 : Int32)), .val (.int (1 : Int32)), .val (.int (1 : Int32))] [])
    refine own_go (fun t k => XS.iconst X102.here hx rfl (hb hby at_609) k) ?_
    show own_G p e below _ T102 (mkF m 610 #[.val (.long i0), .second, .val (.long i1), .second, .val (.long i2), .second, .val (.int i3), .val (.ref a1), .val (.int (own_acc W 44)), .val (.int (1 : Int32)), .val (.int (1 : Int32)), .val (.int (1 : Int32))] [(.int (1 : Int32))])
    refine own_go (fun t k => XS.goto X102.here hx rfl (pc0 := 610) (pc' := 614) rfl (hb hby at_610) (by decide) (by decide) k) ?_
    show own_G p e below _ T102 (mkF m 614 #[.val (.long i0), .second, .val (.long i1), .second, .val (.long i2), .second, .val (.int i3), .val (.ref a1), .val (.int (own_acc W 44)), .val (.int (1 : Int32)), .val (.int (1 : Int32)), .val (.int (1 : Int32))] [(.int (1 : Int32))])
    exact own_retN X102 hx hlk hret (by simp) (hb hby at_614) (by decide) (by decide) ⟨rfl, N102⟩
  · rw [hk99]
    show own_G p e below _ T98 (mkF m 563 #[.val (.long i0), .second, .val (.long i1), .second, .val (.long i2), .second, .val (.int i3), .val (.ref a1), .val (.int (own_acc W 44)), .unset, .unset, .unset] [(.int (2 : Int32))])
    refine own_go (fun t k => XS.istore X98.here hx rfl (hb hby at_563) rfl (l' := #[.val (.long i0), .second, .val (.long i1), .second, .val (.long i2), .second, .val (.int i3), .val (.ref a1), .val (.int (own_acc W 44)), .val (.int (2 : Int32)), .unset, .unset]) rfl k) ?_
    show own_G p e below _ T98 (mkF m 565 #[.val (.long i0), .second, .val (.long i1), .second, .val (.long i2), .second, .val (.int i3), .val (.ref a1), .val (.int (own_acc W 44)), .val (.int (2 : Int32)), .unset, .unset] [])
    refine own_go (fun t k => XS.iload X98.here hx rfl (hb hby at_565) rfl k) ?_
    show own_G p e below _ T98 (mkF m 567 #[.val (.long i0), .second, .val (.long i1), .second, .val (.long i2), .second, .val (.int i3), .val (.ref a1), .val (.int (own_acc W 44)), .val (.int (2 : Int32)), .unset, .unset] [(.int (2 : Int32))])
    refine own_go (fun t k => XS.iconst X98.here hx rfl (hb hby at_567) k) ?_
    show own_G p e below _ T98 (mkF m 568 #[.val (.long i0), .second, .val (.long i1), .second, .val (.long i2), .second, .val (.int i3), .val (.ref a1), .val (.int (own_acc W 44)), .val (.int (2 : Int32)), .unset, .unset] [(.int (1 : Int32)), (.int (2 : Int32))])
    refine own_go (fun t k => XS.icmpYes X98.here hx rfl (pc0 := 568) (pc' := 575) rfl (hb hby at_568) rfl (by decide) (by decide) (by decide) k) ?_
    show own_G p e below _ T98 (mkF m 575 #[.val (.long i0), .second, .val (.long i1), .second, .val (.long i2), .second, .val (.int i3), .val (.ref a1), .val (.int (own_acc W 44)), .val (.int (2 : Int32)), .unset, .unset] [])
    refine own_go (fun t k => XS.bipush X98.here hx rfl (hb hby at_575) k) ?_
    show own_G p e below _ T98 (mkF m 577 #[.val (.long i0), .second, .val (.long i1), .second, .val (.long i2), .second, .val (.int i3), .val (.ref a1), .val (.int (own_acc W 44)), .val (.int (2 : Int32)), .unset, .unset] [(.int (11 : Int32))])
    refine own_go (fun t k => XS.iload X98.here hx rfl (hb hby at_577) rfl k) ?_
    show own_G p e below _ T98 (mkF m 579 #[.val (.long i0), .second, .val (.long i1), .second, .val (.long i2), .second, .val (.int i3), .val (.ref a1), .val (.int (own_acc W 44)), .val (.int (2 : Int32)), .unset, .unset] [(.int (2 : Int32)), (.int (11 : Int32))])
    refine own_go (fun t k => XS.isub X98.here hx rfl (hb hby at_579) rfl k) ?_
    show own_G p e below _ T98 (mkF m 580 #[.val (.long i0), .second, .val (.long i1), .second, .val (.long i2), .second, .val (.int i3), .val (.ref a1), .val (.int (own_acc W 44)), .val (.int (2 : Int32)), .unset, .unset] [(.int (9 : Int32))])
    refine own_go (fun t k => XS.istore X98.here hx rfl (hb hby at_580) rfl (l' := #[.val (.long i0), .second, .val (.long i1), .second, .val (.long i2), .second, .val (.int i3), .val (.ref a1), .val (.int (own_acc W 44)), .val (.int (2 : Int32)), .val (.int (9 : Int32)), .unset]) rfl k) ?_
    show own_G p e below _ T98 (mkF m 582 #[.val (.long i0), .second, .val (.long i1), .second, .val (.long i2), .second, .val (.int i3), .val (.ref a1), .val (.int (own_acc W 44)), .val (.int (2 : Int32)), .val (.int (9 : Int32)), .unset] [])
    refine own_go (fun t k => XS.aload X98.here hx rfl (hb hby at_582) rfl rfl k) ?_
    show own_G p e below _ T98 (mkF m 584 #[.val (.long i0), .second, .val (.long i1), .second, .val (.long i2), .second, .val (.int i3), .val (.ref a1), .val (.int (own_acc W 44)), .val (.int (2 : Int32)), .val (.int (9 : Int32)), .unset] [(.ref a1)])
    obtain ⟨T104, L104, v104, X104, ⟨rfl, rfl, q104⟩, st104⟩ := own_callS X98 hx hZ (y := (⟨"com/example/compensa/compensa/CheckDigits", "generalDigit", "([C)I"⟩ : MethodName)) hown (hw _ (List.mem_of_getElem? (i := 16) rfl)) (hw _ (List.mem_of_getElem? (i := 17) rfl)) (hw _ (List.mem_of_getElem? (i := 18) rfl)) (hw _ (List.mem_of_getElem? (i := 19) rfl)) (by decide) (c_gd l Z a0 hw a_GENERAL_DIGIT_WEIGHTS cl_GENERAL_DIGIT_WEIGHTS a1 cl W h88 (own_B_ext x88 B) A88 hsz hat) q98 (argsL := [(.ref a1)]) (rest := []) (g := (mkF m 584 #[.val (.long i0), .second, .val (.long i1), .second, .val (.long i2), .second, .val (.int i3), .val (.ref a1), .val (.int (own_acc W 44)), .val (.int (2 : Int32)), .val (.int (9 : Int32)), .unset] [(.ref a1)])) rfl (by rw [hml]; rfl) (ps := [(.array .char)]) (r := (some .int)) (by decide +kernel) rfl rfl (W := 0) (by show 2 * 0 + _ ≤ _; exact Nat.le_of_eq rfl) (hb hby at_584) (by decide) (by decide) (by decide) (by decide)
    have N104 := Fr.app N98 (Fr.nil n0)
    refine own_go st104 ?_
    show own_G p e below _ T104 (mkF m 587 #[.val (.long i0), .second, .val (.long i1), .second, .val (.long i2), .second, .val (.int i3), .val (.ref a1), .val (.int (own_acc W 44)), .val (.int (2 : Int32)), .val (.int (9 : Int32)), .unset] [(.int (own_g (own_acc W 44)))])
    have r105 : own_g (own_acc W 44) = (9 : Int32) := by unfold own_g; rw [hk99]; decide
    rw [r105]
    show own_G p e below _ T104 (mkF m 587 #[.val (.long i0), .second, .val (.long i1), .second, .val (.long i2), .second, .val (.int i3), .val (.ref a1), .val (.int (own_acc W 44)), .val (.int (2 : Int32)), .val (.int (9 : Int32)), .unset] [(.int (9 : Int32))])
    refine own_go (fun t k => XS.istore X104.here hx rfl (hb hby at_587) rfl (l' := #[.val (.long i0), .second, .val (.long i1), .second, .val (.long i2), .second, .val (.int i3), .val (.ref a1), .val (.int (own_acc W 44)), .val (.int (2 : Int32)), .val (.int (9 : Int32)), .val (.int (9 : Int32))]) rfl k) ?_
    show own_G p e below _ T104 (mkF m 589 #[.val (.long i0), .second, .val (.long i1), .second, .val (.long i2), .second, .val (.int i3), .val (.ref a1), .val (.int (own_acc W 44)), .val (.int (2 : Int32)), .val (.int (9 : Int32)), .val (.int (9 : Int32))] [])
    refine own_go (fun t k => XS.iload X104.here hx rfl (hb hby at_589) rfl k) ?_
    show own_G p e below _ T104 (mkF m 591 #[.val (.long i0), .second, .val (.long i1), .second, .val (.long i2), .second, .val (.int i3), .val (.ref a1), .val (.int (own_acc W 44)), .val (.int (2 : Int32)), .val (.int (9 : Int32)), .val (.int (9 : Int32))] [(.int (9 : Int32))])
    refine own_go (fun t k => XS.iload X104.here hx rfl (hb hby at_591) rfl k) ?_
    show own_G p e below _ T104 (mkF m 593 #[.val (.long i0), .second, .val (.long i1), .second, .val (.long i2), .second, .val (.int i3), .val (.ref a1), .val (.int (own_acc W 44)), .val (.int (2 : Int32)), .val (.int (9 : Int32)), .val (.int (9 : Int32))] [(.int (9 : Int32)), (.int (9 : Int32))])
    refine own_go (fun t k => XS.icmpNo X104.here hx rfl (hb hby at_593) rfl (by decide) k) ?_
    show own_G p e below _ T104 (mkF m 596 #[.val (.long i0), .second, .val (.long i1), .second, .val (.long i2), .second, .val (.int i3), .val (.ref a1), .val (.int (own_acc W 44)), .val (.int (2 : Int32)), .val (.int (9 : Int32)), .val (.int (9 : Int32))] [])
    refine own_go (fun t k => XS.iload X104.here hx rfl (hb hby at_596) rfl k) ?_
    show own_G p e below _ T104 (mkF m 598 #[.val (.long i0), .second, .val (.long i1), .second, .val (.long i2), .second, .val (.int i3), .val (.ref a1), .val (.int (own_acc W 44)), .val (.int (2 : Int32)), .val (.int (9 : Int32)), .val (.int (9 : Int32))] [(.int (9 : Int32))])
    refine own_go (fun t k => XS.iconst X104.here hx rfl (hb hby at_598) k) ?_
    show own_G p e below _ T104 (mkF m 599 #[.val (.long i0), .second, .val (.long i1), .second, .val (.long i2), .second, .val (.int i3), .val (.ref a1), .val (.int (own_acc W 44)), .val (.int (2 : Int32)), .val (.int (9 : Int32)), .val (.int (9 : Int32))] [(.int (1 : Int32)), (.int (9 : Int32))])
    refine own_go (fun t k => XS.icmpNo X104.here hx rfl (hb hby at_599) rfl (by decide) k) ?_
    show own_G p e below _ T104 (mkF m 602 #[.val (.long i0), .second, .val (.long i1), .second, .val (.long i2), .second, .val (.int i3), .val (.ref a1), .val (.int (own_acc W 44)), .val (.int (2 : Int32)), .val (.int (9 : Int32)), .val (.int (9 : Int32))] [])
    refine own_go (fun t k => XS.iload X104.here hx rfl (hb hby at_602) rfl k) ?_
    show own_G p e below _ T104 (mkF m 604 #[.val (.long i0), .second, .val (.long i1), .second, .val (.long i2), .second, .val (.int i3), .val (.ref a1), .val (.int (own_acc W 44)), .val (.int (2 : Int32)), .val (.int (9 : Int32)), .val (.int (9 : Int32))] [(.int (9 : Int32))])
    refine own_go (fun t k => XS.bipush X104.here hx rfl (hb hby at_604) k) ?_
    show own_G p e below _ T104 (mkF m 606 #[.val (.long i0), .second, .val (.long i1), .second, .val (.long i2), .second, .val (.int i3), .val (.ref a1), .val (.int (own_acc W 44)), .val (.int (2 : Int32)), .val (.int (9 : Int32)), .val (.int (9 : Int32))] [(.int (9 : Int32)), (.int (9 : Int32))])
    refine own_go (fun t k => XS.icmpNo X104.here hx rfl (hb hby at_606) rfl (by decide) k) ?_
    show own_G p e below _ T104 (mkF m 609 #[.val (.long i0), .second, .val (.long i1), .second, .val (.long i2), .second, .val (.int i3), .val (.ref a1), .val (.int (own_acc W 44)), .val (.int (2 : Int32)), .val (.int (9 : Int32)), .val (.int (9 : Int32))] [])
    refine own_go (fun t k => XS.iconst X104.here hx rfl (hb hby at_609) k) ?_
    show own_G p e below _ T104 (mkF m 610 #[.val (.long i0), .second, .val (.long i1), .second, .val (.long i2), .second, .val (.int i3), .val (.ref a1), .val (.int (own_acc W 44)), .val (.int (2 : Int32)), .val (.int (9 : Int32)), .val (.int (9 : Int32))] [(.int (1 : Int32))])
    refine own_go (fun t k => XS.goto X104.here hx rfl (pc0 := 610) (pc' := 614) rfl (hb hby at_610) (by decide) (by decide) k) ?_
    show own_G p e below _ T104 (mkF m 614 #[.val (.long i0), .second, .val (.long i1), .second, .val (.long i2), .second, .val (.int i3), .val (.ref a1), .val (.int (own_acc W 44)), .val (.int (2 : Int32)), .val (.int (9 : Int32)), .val (.int (9 : Int32))] [(.int (1 : Int32))])
    exact own_retN X104 hx hlk hret (by simp) (hb hby at_614) (by decide) (by decide) ⟨rfl, N104⟩
  · rw [hk99]
    show own_G p e below _ T98 (mkF m 563 #[.val (.long i0), .second, .val (.long i1), .second, .val (.long i2), .second, .val (.int i3), .val (.ref a1), .val (.int (own_acc W 44)), .unset, .unset, .unset] [(.int (3 : Int32))])
    refine own_go (fun t k => XS.istore X98.here hx rfl (hb hby at_563) rfl (l' := #[.val (.long i0), .second, .val (.long i1), .second, .val (.long i2), .second, .val (.int i3), .val (.ref a1), .val (.int (own_acc W 44)), .val (.int (3 : Int32)), .unset, .unset]) rfl k) ?_
    show own_G p e below _ T98 (mkF m 565 #[.val (.long i0), .second, .val (.long i1), .second, .val (.long i2), .second, .val (.int i3), .val (.ref a1), .val (.int (own_acc W 44)), .val (.int (3 : Int32)), .unset, .unset] [])
    refine own_go (fun t k => XS.iload X98.here hx rfl (hb hby at_565) rfl k) ?_
    show own_G p e below _ T98 (mkF m 567 #[.val (.long i0), .second, .val (.long i1), .second, .val (.long i2), .second, .val (.int i3), .val (.ref a1), .val (.int (own_acc W 44)), .val (.int (3 : Int32)), .unset, .unset] [(.int (3 : Int32))])
    refine own_go (fun t k => XS.iconst X98.here hx rfl (hb hby at_567) k) ?_
    show own_G p e below _ T98 (mkF m 568 #[.val (.long i0), .second, .val (.long i1), .second, .val (.long i2), .second, .val (.int i3), .val (.ref a1), .val (.int (own_acc W 44)), .val (.int (3 : Int32)), .unset, .unset] [(.int (1 : Int32)), (.int (3 : Int32))])
    refine own_go (fun t k => XS.icmpYes X98.here hx rfl (pc0 := 568) (pc' := 575) rfl (hb hby at_568) rfl (by decide) (by decide) (by decide) k) ?_
    show own_G p e below _ T98 (mkF m 575 #[.val (.long i0), .second, .val (.long i1), .second, .val (.long i2), .second, .val (.int i3), .val (.ref a1), .val (.int (own_acc W 44)), .val (.int (3 : Int32)), .unset, .unset] [])
    refine own_go (fun t k => XS.bipush X98.here hx rfl (hb hby at_575) k) ?_
    show own_G p e below _ T98 (mkF m 577 #[.val (.long i0), .second, .val (.long i1), .second, .val (.long i2), .second, .val (.int i3), .val (.ref a1), .val (.int (own_acc W 44)), .val (.int (3 : Int32)), .unset, .unset] [(.int (11 : Int32))])
    refine own_go (fun t k => XS.iload X98.here hx rfl (hb hby at_577) rfl k) ?_
    show own_G p e below _ T98 (mkF m 579 #[.val (.long i0), .second, .val (.long i1), .second, .val (.long i2), .second, .val (.int i3), .val (.ref a1), .val (.int (own_acc W 44)), .val (.int (3 : Int32)), .unset, .unset] [(.int (3 : Int32)), (.int (11 : Int32))])
    refine own_go (fun t k => XS.isub X98.here hx rfl (hb hby at_579) rfl k) ?_
    show own_G p e below _ T98 (mkF m 580 #[.val (.long i0), .second, .val (.long i1), .second, .val (.long i2), .second, .val (.int i3), .val (.ref a1), .val (.int (own_acc W 44)), .val (.int (3 : Int32)), .unset, .unset] [(.int (8 : Int32))])
    refine own_go (fun t k => XS.istore X98.here hx rfl (hb hby at_580) rfl (l' := #[.val (.long i0), .second, .val (.long i1), .second, .val (.long i2), .second, .val (.int i3), .val (.ref a1), .val (.int (own_acc W 44)), .val (.int (3 : Int32)), .val (.int (8 : Int32)), .unset]) rfl k) ?_
    show own_G p e below _ T98 (mkF m 582 #[.val (.long i0), .second, .val (.long i1), .second, .val (.long i2), .second, .val (.int i3), .val (.ref a1), .val (.int (own_acc W 44)), .val (.int (3 : Int32)), .val (.int (8 : Int32)), .unset] [])
    refine own_go (fun t k => XS.aload X98.here hx rfl (hb hby at_582) rfl rfl k) ?_
    show own_G p e below _ T98 (mkF m 584 #[.val (.long i0), .second, .val (.long i1), .second, .val (.long i2), .second, .val (.int i3), .val (.ref a1), .val (.int (own_acc W 44)), .val (.int (3 : Int32)), .val (.int (8 : Int32)), .unset] [(.ref a1)])
    obtain ⟨T106, L106, v106, X106, ⟨rfl, rfl, q106⟩, st106⟩ := own_callS X98 hx hZ (y := (⟨"com/example/compensa/compensa/CheckDigits", "generalDigit", "([C)I"⟩ : MethodName)) hown (hw _ (List.mem_of_getElem? (i := 16) rfl)) (hw _ (List.mem_of_getElem? (i := 17) rfl)) (hw _ (List.mem_of_getElem? (i := 18) rfl)) (hw _ (List.mem_of_getElem? (i := 19) rfl)) (by decide) (c_gd l Z a0 hw a_GENERAL_DIGIT_WEIGHTS cl_GENERAL_DIGIT_WEIGHTS a1 cl W h88 (own_B_ext x88 B) A88 hsz hat) q98 (argsL := [(.ref a1)]) (rest := []) (g := (mkF m 584 #[.val (.long i0), .second, .val (.long i1), .second, .val (.long i2), .second, .val (.int i3), .val (.ref a1), .val (.int (own_acc W 44)), .val (.int (3 : Int32)), .val (.int (8 : Int32)), .unset] [(.ref a1)])) rfl (by rw [hml]; rfl) (ps := [(.array .char)]) (r := (some .int)) (by decide +kernel) rfl rfl (W := 0) (by show 2 * 0 + _ ≤ _; exact Nat.le_of_eq rfl) (hb hby at_584) (by decide) (by decide) (by decide) (by decide)
    have N106 := Fr.app N98 (Fr.nil n0)
    refine own_go st106 ?_
    show own_G p e below _ T106 (mkF m 587 #[.val (.long i0), .second, .val (.long i1), .second, .val (.long i2), .second, .val (.int i3), .val (.ref a1), .val (.int (own_acc W 44)), .val (.int (3 : Int32)), .val (.int (8 : Int32)), .unset] [(.int (own_g (own_acc W 44)))])
    have r107 : own_g (own_acc W 44) = (8 : Int32) := by unfold own_g; rw [hk99]; decide
    rw [r107]
    show own_G p e below _ T106 (mkF m 587 #[.val (.long i0), .second, .val (.long i1), .second, .val (.long i2), .second, .val (.int i3), .val (.ref a1), .val (.int (own_acc W 44)), .val (.int (3 : Int32)), .val (.int (8 : Int32)), .unset] [(.int (8 : Int32))])
    refine own_go (fun t k => XS.istore X106.here hx rfl (hb hby at_587) rfl (l' := #[.val (.long i0), .second, .val (.long i1), .second, .val (.long i2), .second, .val (.int i3), .val (.ref a1), .val (.int (own_acc W 44)), .val (.int (3 : Int32)), .val (.int (8 : Int32)), .val (.int (8 : Int32))]) rfl k) ?_
    show own_G p e below _ T106 (mkF m 589 #[.val (.long i0), .second, .val (.long i1), .second, .val (.long i2), .second, .val (.int i3), .val (.ref a1), .val (.int (own_acc W 44)), .val (.int (3 : Int32)), .val (.int (8 : Int32)), .val (.int (8 : Int32))] [])
    refine own_go (fun t k => XS.iload X106.here hx rfl (hb hby at_589) rfl k) ?_
    show own_G p e below _ T106 (mkF m 591 #[.val (.long i0), .second, .val (.long i1), .second, .val (.long i2), .second, .val (.int i3), .val (.ref a1), .val (.int (own_acc W 44)), .val (.int (3 : Int32)), .val (.int (8 : Int32)), .val (.int (8 : Int32))] [(.int (8 : Int32))])
    refine own_go (fun t k => XS.iload X106.here hx rfl (hb hby at_591) rfl k) ?_
    show own_G p e below _ T106 (mkF m 593 #[.val (.long i0), .second, .val (.long i1), .second, .val (.long i2), .second, .val (.int i3), .val (.ref a1), .val (.int (own_acc W 44)), .val (.int (3 : Int32)), .val (.int (8 : Int32)), .val (.int (8 : Int32))] [(.int (8 : Int32)), (.int (8 : Int32))])
    refine own_go (fun t k => XS.icmpNo X106.here hx rfl (hb hby at_593) rfl (by decide) k) ?_
    show own_G p e below _ T106 (mkF m 596 #[.val (.long i0), .second, .val (.long i1), .second, .val (.long i2), .second, .val (.int i3), .val (.ref a1), .val (.int (own_acc W 44)), .val (.int (3 : Int32)), .val (.int (8 : Int32)), .val (.int (8 : Int32))] [])
    refine own_go (fun t k => XS.iload X106.here hx rfl (hb hby at_596) rfl k) ?_
    show own_G p e below _ T106 (mkF m 598 #[.val (.long i0), .second, .val (.long i1), .second, .val (.long i2), .second, .val (.int i3), .val (.ref a1), .val (.int (own_acc W 44)), .val (.int (3 : Int32)), .val (.int (8 : Int32)), .val (.int (8 : Int32))] [(.int (8 : Int32))])
    refine own_go (fun t k => XS.iconst X106.here hx rfl (hb hby at_598) k) ?_
    show own_G p e below _ T106 (mkF m 599 #[.val (.long i0), .second, .val (.long i1), .second, .val (.long i2), .second, .val (.int i3), .val (.ref a1), .val (.int (own_acc W 44)), .val (.int (3 : Int32)), .val (.int (8 : Int32)), .val (.int (8 : Int32))] [(.int (1 : Int32)), (.int (8 : Int32))])
    refine own_go (fun t k => XS.icmpNo X106.here hx rfl (hb hby at_599) rfl (by decide) k) ?_
    show own_G p e below _ T106 (mkF m 602 #[.val (.long i0), .second, .val (.long i1), .second, .val (.long i2), .second, .val (.int i3), .val (.ref a1), .val (.int (own_acc W 44)), .val (.int (3 : Int32)), .val (.int (8 : Int32)), .val (.int (8 : Int32))] [])
    refine own_go (fun t k => XS.iload X106.here hx rfl (hb hby at_602) rfl k) ?_
    show own_G p e below _ T106 (mkF m 604 #[.val (.long i0), .second, .val (.long i1), .second, .val (.long i2), .second, .val (.int i3), .val (.ref a1), .val (.int (own_acc W 44)), .val (.int (3 : Int32)), .val (.int (8 : Int32)), .val (.int (8 : Int32))] [(.int (8 : Int32))])
    refine own_go (fun t k => XS.bipush X106.here hx rfl (hb hby at_604) k) ?_
    show own_G p e below _ T106 (mkF m 606 #[.val (.long i0), .second, .val (.long i1), .second, .val (.long i2), .second, .val (.int i3), .val (.ref a1), .val (.int (own_acc W 44)), .val (.int (3 : Int32)), .val (.int (8 : Int32)), .val (.int (8 : Int32))] [(.int (9 : Int32)), (.int (8 : Int32))])
    refine own_go (fun t k => XS.icmpNo X106.here hx rfl (hb hby at_606) rfl (by decide) k) ?_
    show own_G p e below _ T106 (mkF m 609 #[.val (.long i0), .second, .val (.long i1), .second, .val (.long i2), .second, .val (.int i3), .val (.ref a1), .val (.int (own_acc W 44)), .val (.int (3 : Int32)), .val (.int (8 : Int32)), .val (.int (8 : Int32))] [])
    refine own_go (fun t k => XS.iconst X106.here hx rfl (hb hby at_609) k) ?_
    show own_G p e below _ T106 (mkF m 610 #[.val (.long i0), .second, .val (.long i1), .second, .val (.long i2), .second, .val (.int i3), .val (.ref a1), .val (.int (own_acc W 44)), .val (.int (3 : Int32)), .val (.int (8 : Int32)), .val (.int (8 : Int32))] [(.int (1 : Int32))])
    refine own_go (fun t k => XS.goto X106.here hx rfl (pc0 := 610) (pc' := 614) rfl (hb hby at_610) (by decide) (by decide) k) ?_
    show own_G p e below _ T106 (mkF m 614 #[.val (.long i0), .second, .val (.long i1), .second, .val (.long i2), .second, .val (.int i3), .val (.ref a1), .val (.int (own_acc W 44)), .val (.int (3 : Int32)), .val (.int (8 : Int32)), .val (.int (8 : Int32))] [(.int (1 : Int32))])
    exact own_retN X106 hx hlk hret (by simp) (hb hby at_614) (by decide) (by decide) ⟨rfl, N106⟩
  · rw [hk99]
    show own_G p e below _ T98 (mkF m 563 #[.val (.long i0), .second, .val (.long i1), .second, .val (.long i2), .second, .val (.int i3), .val (.ref a1), .val (.int (own_acc W 44)), .unset, .unset, .unset] [(.int (4 : Int32))])
    refine own_go (fun t k => XS.istore X98.here hx rfl (hb hby at_563) rfl (l' := #[.val (.long i0), .second, .val (.long i1), .second, .val (.long i2), .second, .val (.int i3), .val (.ref a1), .val (.int (own_acc W 44)), .val (.int (4 : Int32)), .unset, .unset]) rfl k) ?_
    show own_G p e below _ T98 (mkF m 565 #[.val (.long i0), .second, .val (.long i1), .second, .val (.long i2), .second, .val (.int i3), .val (.ref a1), .val (.int (own_acc W 44)), .val (.int (4 : Int32)), .unset, .unset] [])
    refine own_go (fun t k => XS.iload X98.here hx rfl (hb hby at_565) rfl k) ?_
    show own_G p e below _ T98 (mkF m 567 #[.val (.long i0), .second, .val (.long i1), .second, .val (.long i2), .second, .val (.int i3), .val (.ref a1), .val (.int (own_acc W 44)), .val (.int (4 : Int32)), .unset, .unset] [(.int (4 : Int32))])
    refine own_go (fun t k => XS.iconst X98.here hx rfl (hb hby at_567) k) ?_
    show own_G p e below _ T98 (mkF m 568 #[.val (.long i0), .second, .val (.long i1), .second, .val (.long i2), .second, .val (.int i3), .val (.ref a1), .val (.int (own_acc W 44)), .val (.int (4 : Int32)), .unset, .unset] [(.int (1 : Int32)), (.int (4 : Int32))])
    refine own_go (fun t k => XS.icmpYes X98.here hx rfl (pc0 := 568) (pc' := 575) rfl (hb hby at_568) rfl (by decide) (by decide) (by decide) k) ?_
    show own_G p e below _ T98 (mkF m 575 #[.val (.long i0), .second, .val (.long i1), .second, .val (.long i2), .second, .val (.int i3), .val (.ref a1), .val (.int (own_acc W 44)), .val (.int (4 : Int32)), .unset, .unset] [])
    refine own_go (fun t k => XS.bipush X98.here hx rfl (hb hby at_575) k) ?_
    show own_G p e below _ T98 (mkF m 577 #[.val (.long i0), .second, .val (.long i1), .second, .val (.long i2), .second, .val (.int i3), .val (.ref a1), .val (.int (own_acc W 44)), .val (.int (4 : Int32)), .unset, .unset] [(.int (11 : Int32))])
    refine own_go (fun t k => XS.iload X98.here hx rfl (hb hby at_577) rfl k) ?_
    show own_G p e below _ T98 (mkF m 579 #[.val (.long i0), .second, .val (.long i1), .second, .val (.long i2), .second, .val (.int i3), .val (.ref a1), .val (.int (own_acc W 44)), .val (.int (4 : Int32)), .unset, .unset] [(.int (4 : Int32)), (.int (11 : Int32))])
    refine own_go (fun t k => XS.isub X98.here hx rfl (hb hby at_579) rfl k) ?_
    show own_G p e below _ T98 (mkF m 580 #[.val (.long i0), .second, .val (.long i1), .second, .val (.long i2), .second, .val (.int i3), .val (.ref a1), .val (.int (own_acc W 44)), .val (.int (4 : Int32)), .unset, .unset] [(.int (7 : Int32))])
    refine own_go (fun t k => XS.istore X98.here hx rfl (hb hby at_580) rfl (l' := #[.val (.long i0), .second, .val (.long i1), .second, .val (.long i2), .second, .val (.int i3), .val (.ref a1), .val (.int (own_acc W 44)), .val (.int (4 : Int32)), .val (.int (7 : Int32)), .unset]) rfl k) ?_
    show own_G p e below _ T98 (mkF m 582 #[.val (.long i0), .second, .val (.long i1), .second, .val (.long i2), .second, .val (.int i3), .val (.ref a1), .val (.int (own_acc W 44)), .val (.int (4 : Int32)), .val (.int (7 : Int32)), .unset] [])
    refine own_go (fun t k => XS.aload X98.here hx rfl (hb hby at_582) rfl rfl k) ?_
    show own_G p e below _ T98 (mkF m 584 #[.val (.long i0), .second, .val (.long i1), .second, .val (.long i2), .second, .val (.int i3), .val (.ref a1), .val (.int (own_acc W 44)), .val (.int (4 : Int32)), .val (.int (7 : Int32)), .unset] [(.ref a1)])
    obtain ⟨T108, L108, v108, X108, ⟨rfl, rfl, q108⟩, st108⟩ := own_callS X98 hx hZ (y := (⟨"com/example/compensa/compensa/CheckDigits", "generalDigit", "([C)I"⟩ : MethodName)) hown (hw _ (List.mem_of_getElem? (i := 16) rfl)) (hw _ (List.mem_of_getElem? (i := 17) rfl)) (hw _ (List.mem_of_getElem? (i := 18) rfl)) (hw _ (List.mem_of_getElem? (i := 19) rfl)) (by decide) (c_gd l Z a0 hw a_GENERAL_DIGIT_WEIGHTS cl_GENERAL_DIGIT_WEIGHTS a1 cl W h88 (own_B_ext x88 B) A88 hsz hat) q98 (argsL := [(.ref a1)]) (rest := []) (g := (mkF m 584 #[.val (.long i0), .second, .val (.long i1), .second, .val (.long i2), .second, .val (.int i3), .val (.ref a1), .val (.int (own_acc W 44)), .val (.int (4 : Int32)), .val (.int (7 : Int32)), .unset] [(.ref a1)])) rfl (by rw [hml]; rfl) (ps := [(.array .char)]) (r := (some .int)) (by decide +kernel) rfl rfl (W := 0) (by show 2 * 0 + _ ≤ _; exact Nat.le_of_eq rfl) (hb hby at_584) (by decide) (by decide) (by decide) (by decide)
    have N108 := Fr.app N98 (Fr.nil n0)
    refine own_go st108 ?_
    show own_G p e below _ T108 (mkF m 587 #[.val (.long i0), .second, .val (.long i1), .second, .val (.long i2), .second, .val (.int i3), .val (.ref a1), .val (.int (own_acc W 44)), .val (.int (4 : Int32)), .val (.int (7 : Int32)), .unset] [(.int (own_g (own_acc W 44)))])
    have r109 : own_g (own_acc W 44) = (7 : Int32) := by unfold own_g; rw [hk99]; decide
    rw [r109]
    show own_G p e below _ T108 (mkF m 587 #[.val (.long i0), .second, .val (.long i1), .second, .val (.long i2), .second, .val (.int i3), .val (.ref a1), .val (.int (own_acc W 44)), .val (.int (4 : Int32)), .val (.int (7 : Int32)), .unset] [(.int (7 : Int32))])
    refine own_go (fun t k => XS.istore X108.here hx rfl (hb hby at_587) rfl (l' := #[.val (.long i0), .second, .val (.long i1), .second, .val (.long i2), .second, .val (.int i3), .val (.ref a1), .val (.int (own_acc W 44)), .val (.int (4 : Int32)), .val (.int (7 : Int32)), .val (.int (7 : Int32))]) rfl k) ?_
    show own_G p e below _ T108 (mkF m 589 #[.val (.long i0), .second, .val (.long i1), .second, .val (.long i2), .second, .val (.int i3), .val (.ref a1), .val (.int (own_acc W 44)), .val (.int (4 : Int32)), .val (.int (7 : Int32)), .val (.int (7 : Int32))] [])
    refine own_go (fun t k => XS.iload X108.here hx rfl (hb hby at_589) rfl k) ?_
    show own_G p e below _ T108 (mkF m 591 #[.val (.long i0), .second, .val (.long i1), .second, .val (.long i2), .second, .val (.int i3), .val (.ref a1), .val (.int (own_acc W 44)), .val (.int (4 : Int32)), .val (.int (7 : Int32)), .val (.int (7 : Int32))] [(.int (7 : Int32))])
    refine own_go (fun t k => XS.iload X108.here hx rfl (hb hby at_591) rfl k) ?_
    show own_G p e below _ T108 (mkF m 593 #[.val (.long i0), .second, .val (.long i1), .second, .val (.long i2), .second, .val (.int i3), .val (.ref a1), .val (.int (own_acc W 44)), .val (.int (4 : Int32)), .val (.int (7 : Int32)), .val (.int (7 : Int32))] [(.int (7 : Int32)), (.int (7 : Int32))])
    refine own_go (fun t k => XS.icmpNo X108.here hx rfl (hb hby at_593) rfl (by decide) k) ?_
    show own_G p e below _ T108 (mkF m 596 #[.val (.long i0), .second, .val (.long i1), .second, .val (.long i2), .second, .val (.int i3), .val (.ref a1), .val (.int (own_acc W 44)), .val (.int (4 : Int32)), .val (.int (7 : Int32)), .val (.int (7 : Int32))] [])
    refine own_go (fun t k => XS.iload X108.here hx rfl (hb hby at_596) rfl k) ?_
    show own_G p e below _ T108 (mkF m 598 #[.val (.long i0), .second, .val (.long i1), .second, .val (.long i2), .second, .val (.int i3), .val (.ref a1), .val (.int (own_acc W 44)), .val (.int (4 : Int32)), .val (.int (7 : Int32)), .val (.int (7 : Int32))] [(.int (7 : Int32))])
    refine own_go (fun t k => XS.iconst X108.here hx rfl (hb hby at_598) k) ?_
    show own_G p e below _ T108 (mkF m 599 #[.val (.long i0), .second, .val (.long i1), .second, .val (.long i2), .second, .val (.int i3), .val (.ref a1), .val (.int (own_acc W 44)), .val (.int (4 : Int32)), .val (.int (7 : Int32)), .val (.int (7 : Int32))] [(.int (1 : Int32)), (.int (7 : Int32))])
    refine own_go (fun t k => XS.icmpNo X108.here hx rfl (hb hby at_599) rfl (by decide) k) ?_
    show own_G p e below _ T108 (mkF m 602 #[.val (.long i0), .second, .val (.long i1), .second, .val (.long i2), .second, .val (.int i3), .val (.ref a1), .val (.int (own_acc W 44)), .val (.int (4 : Int32)), .val (.int (7 : Int32)), .val (.int (7 : Int32))] [])
    refine own_go (fun t k => XS.iload X108.here hx rfl (hb hby at_602) rfl k) ?_
    show own_G p e below _ T108 (mkF m 604 #[.val (.long i0), .second, .val (.long i1), .second, .val (.long i2), .second, .val (.int i3), .val (.ref a1), .val (.int (own_acc W 44)), .val (.int (4 : Int32)), .val (.int (7 : Int32)), .val (.int (7 : Int32))] [(.int (7 : Int32))])
    refine own_go (fun t k => XS.bipush X108.here hx rfl (hb hby at_604) k) ?_
    show own_G p e below _ T108 (mkF m 606 #[.val (.long i0), .second, .val (.long i1), .second, .val (.long i2), .second, .val (.int i3), .val (.ref a1), .val (.int (own_acc W 44)), .val (.int (4 : Int32)), .val (.int (7 : Int32)), .val (.int (7 : Int32))] [(.int (9 : Int32)), (.int (7 : Int32))])
    refine own_go (fun t k => XS.icmpNo X108.here hx rfl (hb hby at_606) rfl (by decide) k) ?_
    show own_G p e below _ T108 (mkF m 609 #[.val (.long i0), .second, .val (.long i1), .second, .val (.long i2), .second, .val (.int i3), .val (.ref a1), .val (.int (own_acc W 44)), .val (.int (4 : Int32)), .val (.int (7 : Int32)), .val (.int (7 : Int32))] [])
    refine own_go (fun t k => XS.iconst X108.here hx rfl (hb hby at_609) k) ?_
    show own_G p e below _ T108 (mkF m 610 #[.val (.long i0), .second, .val (.long i1), .second, .val (.long i2), .second, .val (.int i3), .val (.ref a1), .val (.int (own_acc W 44)), .val (.int (4 : Int32)), .val (.int (7 : Int32)), .val (.int (7 : Int32))] [(.int (1 : Int32))])
    refine own_go (fun t k => XS.goto X108.here hx rfl (pc0 := 610) (pc' := 614) rfl (hb hby at_610) (by decide) (by decide) k) ?_
    show own_G p e below _ T108 (mkF m 614 #[.val (.long i0), .second, .val (.long i1), .second, .val (.long i2), .second, .val (.int i3), .val (.ref a1), .val (.int (own_acc W 44)), .val (.int (4 : Int32)), .val (.int (7 : Int32)), .val (.int (7 : Int32))] [(.int (1 : Int32))])
    exact own_retN X108 hx hlk hret (by simp) (hb hby at_614) (by decide) (by decide) ⟨rfl, N108⟩
  · rw [hk99]
    show own_G p e below _ T98 (mkF m 563 #[.val (.long i0), .second, .val (.long i1), .second, .val (.long i2), .second, .val (.int i3), .val (.ref a1), .val (.int (own_acc W 44)), .unset, .unset, .unset] [(.int (5 : Int32))])
    refine own_go (fun t k => XS.istore X98.here hx rfl (hb hby at_563) rfl (l' := #[.val (.long i0), .second, .val (.long i1), .second, .val (.long i2), .second, .val (.int i3), .val (.ref a1), .val (.int (own_acc W 44)), .val (.int (5 : Int32)), .unset, .unset]) rfl k) ?_
    show own_G p e below _ T98 (mkF m 565 #[.val (.long i0), .second, .val (.long i1), .second, .val (.long i2), .second, .val (.int i3), .val (.ref a1), .val (.int (own_acc W 44)), .val (.int (5 : Int32)), .unset, .unset] [])
    refine own_go (fun t k => XS.iload X98.here hx rfl (hb hby at_565) rfl k) ?_
    show own_G p e below _ T98 (mkF m 567 #[.val (.long i0), .second, .val (.long i1), .second, .val (.long i2), .second, .val (.int i3), .val (.ref a1), .val (.int (own_acc W 44)), .val (.int (5 : Int32)), .unset, .unset] [(.int (5 : Int32))])
    refine own_go (fun t k => XS.iconst X98.here hx rfl (hb hby at_567) k) ?_
    show own_G p e below _ T98 (mkF m 568 #[.val (.long i0), .second, .val (.long i1), .second, .val (.long i2), .second, .val (.int i3), .val (.ref a1), .val (.int (own_acc W 44)), .val (.int (5 : Int32)), .unset, .unset] [(.int (1 : Int32)), (.int (5 : Int32))])
    refine own_go (fun t k => XS.icmpYes X98.here hx rfl (pc0 := 568) (pc' := 575) rfl (hb hby at_568) rfl (by decide) (by decide) (by decide) k) ?_
    show own_G p e below _ T98 (mkF m 575 #[.val (.long i0), .second, .val (.long i1), .second, .val (.long i2), .second, .val (.int i3), .val (.ref a1), .val (.int (own_acc W 44)), .val (.int (5 : Int32)), .unset, .unset] [])
    refine own_go (fun t k => XS.bipush X98.here hx rfl (hb hby at_575) k) ?_
    show own_G p e below _ T98 (mkF m 577 #[.val (.long i0), .second, .val (.long i1), .second, .val (.long i2), .second, .val (.int i3), .val (.ref a1), .val (.int (own_acc W 44)), .val (.int (5 : Int32)), .unset, .unset] [(.int (11 : Int32))])
    refine own_go (fun t k => XS.iload X98.here hx rfl (hb hby at_577) rfl k) ?_
    show own_G p e below _ T98 (mkF m 579 #[.val (.long i0), .second, .val (.long i1), .second, .val (.long i2), .second, .val (.int i3), .val (.ref a1), .val (.int (own_acc W 44)), .val (.int (5 : Int32)), .unset, .unset] [(.int (5 : Int32)), (.int (11 : Int32))])
    refine own_go (fun t k => XS.isub X98.here hx rfl (hb hby at_579) rfl k) ?_
    show own_G p e below _ T98 (mkF m 580 #[.val (.long i0), .second, .val (.long i1), .second, .val (.long i2), .second, .val (.int i3), .val (.ref a1), .val (.int (own_acc W 44)), .val (.int (5 : Int32)), .unset, .unset] [(.int (6 : Int32))])
    refine own_go (fun t k => XS.istore X98.here hx rfl (hb hby at_580) rfl (l' := #[.val (.long i0), .second, .val (.long i1), .second, .val (.long i2), .second, .val (.int i3), .val (.ref a1), .val (.int (own_acc W 44)), .val (.int (5 : Int32)), .val (.int (6 : Int32)), .unset]) rfl k) ?_
    show own_G p e below _ T98 (mkF m 582 #[.val (.long i0), .second, .val (.long i1), .second, .val (.long i2), .second, .val (.int i3), .val (.ref a1), .val (.int (own_acc W 44)), .val (.int (5 : Int32)), .val (.int (6 : Int32)), .unset] [])
    refine own_go (fun t k => XS.aload X98.here hx rfl (hb hby at_582) rfl rfl k) ?_
    show own_G p e below _ T98 (mkF m 584 #[.val (.long i0), .second, .val (.long i1), .second, .val (.long i2), .second, .val (.int i3), .val (.ref a1), .val (.int (own_acc W 44)), .val (.int (5 : Int32)), .val (.int (6 : Int32)), .unset] [(.ref a1)])
    obtain ⟨T110, L110, v110, X110, ⟨rfl, rfl, q110⟩, st110⟩ := own_callS X98 hx hZ (y := (⟨"com/example/compensa/compensa/CheckDigits", "generalDigit", "([C)I"⟩ : MethodName)) hown (hw _ (List.mem_of_getElem? (i := 16) rfl)) (hw _ (List.mem_of_getElem? (i := 17) rfl)) (hw _ (List.mem_of_getElem? (i := 18) rfl)) (hw _ (List.mem_of_getElem? (i := 19) rfl)) (by decide) (c_gd l Z a0 hw a_GENERAL_DIGIT_WEIGHTS cl_GENERAL_DIGIT_WEIGHTS a1 cl W h88 (own_B_ext x88 B) A88 hsz hat) q98 (argsL := [(.ref a1)]) (rest := []) (g := (mkF m 584 #[.val (.long i0), .second, .val (.long i1), .second, .val (.long i2), .second, .val (.int i3), .val (.ref a1), .val (.int (own_acc W 44)), .val (.int (5 : Int32)), .val (.int (6 : Int32)), .unset] [(.ref a1)])) rfl (by rw [hml]; rfl) (ps := [(.array .char)]) (r := (some .int)) (by decide +kernel) rfl rfl (W := 0) (by show 2 * 0 + _ ≤ _; exact Nat.le_of_eq rfl) (hb hby at_584) (by decide) (by decide) (by decide) (by decide)
    have N110 := Fr.app N98 (Fr.nil n0)
    refine own_go st110 ?_
    show own_G p e below _ T110 (mkF m 587 #[.val (.long i0), .second, .val (.long i1), .second, .val (.long i2), .second, .val (.int i3), .val (.ref a1), .val (.int (own_acc W 44)), .val (.int (5 : Int32)), .val (.int (6 : Int32)), .unset] [(.int (own_g (own_acc W 44)))])
    have r111 : own_g (own_acc W 44) = (6 : Int32) := by unfold own_g; rw [hk99]; decide
    rw [r111]
    show own_G p e below _ T110 (mkF m 587 #[.val (.long i0), .second, .val (.long i1), .second, .val (.long i2), .second, .val (.int i3), .val (.ref a1), .val (.int (own_acc W 44)), .val (.int (5 : Int32)), .val (.int (6 : Int32)), .unset] [(.int (6 : Int32))])
    refine own_go (fun t k => XS.istore X110.here hx rfl (hb hby at_587) rfl (l' := #[.val (.long i0), .second, .val (.long i1), .second, .val (.long i2), .second, .val (.int i3), .val (.ref a1), .val (.int (own_acc W 44)), .val (.int (5 : Int32)), .val (.int (6 : Int32)), .val (.int (6 : Int32))]) rfl k) ?_
    show own_G p e below _ T110 (mkF m 589 #[.val (.long i0), .second, .val (.long i1), .second, .val (.long i2), .second, .val (.int i3), .val (.ref a1), .val (.int (own_acc W 44)), .val (.int (5 : Int32)), .val (.int (6 : Int32)), .val (.int (6 : Int32))] [])
    refine own_go (fun t k => XS.iload X110.here hx rfl (hb hby at_589) rfl k) ?_
    show own_G p e below _ T110 (mkF m 591 #[.val (.long i0), .second, .val (.long i1), .second, .val (.long i2), .second, .val (.int i3), .val (.ref a1), .val (.int (own_acc W 44)), .val (.int (5 : Int32)), .val (.int (6 : Int32)), .val (.int (6 : Int32))] [(.int (6 : Int32))])
    refine own_go (fun t k => XS.iload X110.here hx rfl (hb hby at_591) rfl k) ?_
    show own_G p e below _ T110 (mkF m 593 #[.val (.long i0), .second, .val (.long i1), .second, .val (.long i2), .second, .val (.int i3), .val (.ref a1), .val (.int (own_acc W 44)), .val (.int (5 : Int32)), .val (.int (6 : Int32)), .val (.int (6 : Int32))] [(.int (6 : Int32)), (.int (6 : Int32))])
    refine own_go (fun t k => XS.icmpNo X110.here hx rfl (hb hby at_593) rfl (by decide) k) ?_
    show own_G p e below _ T110 (mkF m 596 #[.val (.long i0), .second, .val (.long i1), .second, .val (.long i2), .second, .val (.int i3), .val (.ref a1), .val (.int (own_acc W 44)), .val (.int (5 : Int32)), .val (.int (6 : Int32)), .val (.int (6 : Int32))] [])
    refine own_go (fun t k => XS.iload X110.here hx rfl (hb hby at_596) rfl k) ?_
    show own_G p e below _ T110 (mkF m 598 #[.val (.long i0), .second, .val (.long i1), .second, .val (.long i2), .second, .val (.int i3), .val (.ref a1), .val (.int (own_acc W 44)), .val (.int (5 : Int32)), .val (.int (6 : Int32)), .val (.int (6 : Int32))] [(.int (6 : Int32))])
    refine own_go (fun t k => XS.iconst X110.here hx rfl (hb hby at_598) k) ?_
    show own_G p e below _ T110 (mkF m 599 #[.val (.long i0), .second, .val (.long i1), .second, .val (.long i2), .second, .val (.int i3), .val (.ref a1), .val (.int (own_acc W 44)), .val (.int (5 : Int32)), .val (.int (6 : Int32)), .val (.int (6 : Int32))] [(.int (1 : Int32)), (.int (6 : Int32))])
    refine own_go (fun t k => XS.icmpNo X110.here hx rfl (hb hby at_599) rfl (by decide) k) ?_
    show own_G p e below _ T110 (mkF m 602 #[.val (.long i0), .second, .val (.long i1), .second, .val (.long i2), .second, .val (.int i3), .val (.ref a1), .val (.int (own_acc W 44)), .val (.int (5 : Int32)), .val (.int (6 : Int32)), .val (.int (6 : Int32))] [])
    refine own_go (fun t k => XS.iload X110.here hx rfl (hb hby at_602) rfl k) ?_
    show own_G p e below _ T110 (mkF m 604 #[.val (.long i0), .second, .val (.long i1), .second, .val (.long i2), .second, .val (.int i3), .val (.ref a1), .val (.int (own_acc W 44)), .val (.int (5 : Int32)), .val (.int (6 : Int32)), .val (.int (6 : Int32))] [(.int (6 : Int32))])
    refine own_go (fun t k => XS.bipush X110.here hx rfl (hb hby at_604) k) ?_
    show own_G p e below _ T110 (mkF m 606 #[.val (.long i0), .second, .val (.long i1), .second, .val (.long i2), .second, .val (.int i3), .val (.ref a1), .val (.int (own_acc W 44)), .val (.int (5 : Int32)), .val (.int (6 : Int32)), .val (.int (6 : Int32))] [(.int (9 : Int32)), (.int (6 : Int32))])
    refine own_go (fun t k => XS.icmpNo X110.here hx rfl (hb hby at_606) rfl (by decide) k) ?_
    show own_G p e below _ T110 (mkF m 609 #[.val (.long i0), .second, .val (.long i1), .second, .val (.long i2), .second, .val (.int i3), .val (.ref a1), .val (.int (own_acc W 44)), .val (.int (5 : Int32)), .val (.int (6 : Int32)), .val (.int (6 : Int32))] [])
    refine own_go (fun t k => XS.iconst X110.here hx rfl (hb hby at_609) k) ?_
    show own_G p e below _ T110 (mkF m 610 #[.val (.long i0), .second, .val (.long i1), .second, .val (.long i2), .second, .val (.int i3), .val (.ref a1), .val (.int (own_acc W 44)), .val (.int (5 : Int32)), .val (.int (6 : Int32)), .val (.int (6 : Int32))] [(.int (1 : Int32))])
    refine own_go (fun t k => XS.goto X110.here hx rfl (pc0 := 610) (pc' := 614) rfl (hb hby at_610) (by decide) (by decide) k) ?_
    show own_G p e below _ T110 (mkF m 614 #[.val (.long i0), .second, .val (.long i1), .second, .val (.long i2), .second, .val (.int i3), .val (.ref a1), .val (.int (own_acc W 44)), .val (.int (5 : Int32)), .val (.int (6 : Int32)), .val (.int (6 : Int32))] [(.int (1 : Int32))])
    exact own_retN X110 hx hlk hret (by simp) (hb hby at_614) (by decide) (by decide) ⟨rfl, N110⟩
  · rw [hk99]
    show own_G p e below _ T98 (mkF m 563 #[.val (.long i0), .second, .val (.long i1), .second, .val (.long i2), .second, .val (.int i3), .val (.ref a1), .val (.int (own_acc W 44)), .unset, .unset, .unset] [(.int (6 : Int32))])
    refine own_go (fun t k => XS.istore X98.here hx rfl (hb hby at_563) rfl (l' := #[.val (.long i0), .second, .val (.long i1), .second, .val (.long i2), .second, .val (.int i3), .val (.ref a1), .val (.int (own_acc W 44)), .val (.int (6 : Int32)), .unset, .unset]) rfl k) ?_
    show own_G p e below _ T98 (mkF m 565 #[.val (.long i0), .second, .val (.long i1), .second, .val (.long i2), .second, .val (.int i3), .val (.ref a1), .val (.int (own_acc W 44)), .val (.int (6 : Int32)), .unset, .unset] [])
    refine own_go (fun t k => XS.iload X98.here hx rfl (hb hby at_565) rfl k) ?_
    show own_G p e below _ T98 (mkF m 567 #[.val (.long i0), .second, .val (.long i1), .second, .val (.long i2), .second, .val (.int i3), .val (.ref a1), .val (.int (own_acc W 44)), .val (.int (6 : Int32)), .unset, .unset] [(.int (6 : Int32))])
    refine own_go (fun t k => XS.iconst X98.here hx rfl (hb hby at_567) k) ?_
    show own_G p e below _ T98 (mkF m 568 #[.val (.long i0), .second, .val (.long i1), .second, .val (.long i2), .second, .val (.int i3), .val (.ref a1), .val (.int (own_acc W 44)), .val (.int (6 : Int32)), .unset, .unset] [(.int (1 : Int32)), (.int (6 : Int32))])
    refine own_go (fun t k => XS.icmpYes X98.here hx rfl (pc0 := 568) (pc' := 575) rfl (hb hby at_568) rfl (by decide) (by decide) (by decide) k) ?_
    show own_G p e below _ T98 (mkF m 575 #[.val (.long i0), .second, .val (.long i1), .second, .val (.long i2), .second, .val (.int i3), .val (.ref a1), .val (.int (own_acc W 44)), .val (.int (6 : Int32)), .unset, .unset] [])
    refine own_go (fun t k => XS.bipush X98.here hx rfl (hb hby at_575) k) ?_
    show own_G p e below _ T98 (mkF m 577 #[.val (.long i0), .second, .val (.long i1), .second, .val (.long i2), .second, .val (.int i3), .val (.ref a1), .val (.int (own_acc W 44)), .val (.int (6 : Int32)), .unset, .unset] [(.int (11 : Int32))])
    refine own_go (fun t k => XS.iload X98.here hx rfl (hb hby at_577) rfl k) ?_
    show own_G p e below _ T98 (mkF m 579 #[.val (.long i0), .second, .val (.long i1), .second, .val (.long i2), .second, .val (.int i3), .val (.ref a1), .val (.int (own_acc W 44)), .val (.int (6 : Int32)), .unset, .unset] [(.int (6 : Int32)), (.int (11 : Int32))])
    refine own_go (fun t k => XS.isub X98.here hx rfl (hb hby at_579) rfl k) ?_
    show own_G p e below _ T98 (mkF m 580 #[.val (.long i0), .second, .val (.long i1), .second, .val (.long i2), .second, .val (.int i3), .val (.ref a1), .val (.int (own_acc W 44)), .val (.int (6 : Int32)), .unset, .unset] [(.int (5 : Int32))])
    refine own_go (fun t k => XS.istore X98.here hx rfl (hb hby at_580) rfl (l' := #[.val (.long i0), .second, .val (.long i1), .second, .val (.long i2), .second, .val (.int i3), .val (.ref a1), .val (.int (own_acc W 44)), .val (.int (6 : Int32)), .val (.int (5 : Int32)), .unset]) rfl k) ?_
    show own_G p e below _ T98 (mkF m 582 #[.val (.long i0), .second, .val (.long i1), .second, .val (.long i2), .second, .val (.int i3), .val (.ref a1), .val (.int (own_acc W 44)), .val (.int (6 : Int32)), .val (.int (5 : Int32)), .unset] [])
    refine own_go (fun t k => XS.aload X98.here hx rfl (hb hby at_582) rfl rfl k) ?_
    show own_G p e below _ T98 (mkF m 584 #[.val (.long i0), .second, .val (.long i1), .second, .val (.long i2), .second, .val (.int i3), .val (.ref a1), .val (.int (own_acc W 44)), .val (.int (6 : Int32)), .val (.int (5 : Int32)), .unset] [(.ref a1)])
    obtain ⟨T112, L112, v112, X112, ⟨rfl, rfl, q112⟩, st112⟩ := own_callS X98 hx hZ (y := (⟨"com/example/compensa/compensa/CheckDigits", "generalDigit", "([C)I"⟩ : MethodName)) hown (hw _ (List.mem_of_getElem? (i := 16) rfl)) (hw _ (List.mem_of_getElem? (i := 17) rfl)) (hw _ (List.mem_of_getElem? (i := 18) rfl)) (hw _ (List.mem_of_getElem? (i := 19) rfl)) (by decide) (c_gd l Z a0 hw a_GENERAL_DIGIT_WEIGHTS cl_GENERAL_DIGIT_WEIGHTS a1 cl W h88 (own_B_ext x88 B) A88 hsz hat) q98 (argsL := [(.ref a1)]) (rest := []) (g := (mkF m 584 #[.val (.long i0), .second, .val (.long i1), .second, .val (.long i2), .second, .val (.int i3), .val (.ref a1), .val (.int (own_acc W 44)), .val (.int (6 : Int32)), .val (.int (5 : Int32)), .unset] [(.ref a1)])) rfl (by rw [hml]; rfl) (ps := [(.array .char)]) (r := (some .int)) (by decide +kernel) rfl rfl (W := 0) (by show 2 * 0 + _ ≤ _; exact Nat.le_of_eq rfl) (hb hby at_584) (by decide) (by decide) (by decide) (by decide)
    have N112 := Fr.app N98 (Fr.nil n0)
    refine own_go st112 ?_
    show own_G p e below _ T112 (mkF m 587 #[.val (.long i0), .second, .val (.long i1), .second, .val (.long i2), .second, .val (.int i3), .val (.ref a1), .val (.int (own_acc W 44)), .val (.int (6 : Int32)), .val (.int (5 : Int32)), .unset] [(.int (own_g (own_acc W 44)))])
    have r113 : own_g (own_acc W 44) = (5 : Int32) := by unfold own_g; rw [hk99]; decide
    rw [r113]
    show own_G p e below _ T112 (mkF m 587 #[.val (.long i0), .second, .val (.long i1), .second, .val (.long i2), .second, .val (.int i3), .val (.ref a1), .val (.int (own_acc W 44)), .val (.int (6 : Int32)), .val (.int (5 : Int32)), .unset] [(.int (5 : Int32))])
    refine own_go (fun t k => XS.istore X112.here hx rfl (hb hby at_587) rfl (l' := #[.val (.long i0), .second, .val (.long i1), .second, .val (.long i2), .second, .val (.int i3), .val (.ref a1), .val (.int (own_acc W 44)), .val (.int (6 : Int32)), .val (.int (5 : Int32)), .val (.int (5 : Int32))]) rfl k) ?_
    show own_G p e below _ T112 (mkF m 589 #[.val (.long i0), .second, .val (.long i1), .second, .val (.long i2), .second, .val (.int i3), .val (.ref a1), .val (.int (own_acc W 44)), .val (.int (6 : Int32)), .val (.int (5 : Int32)), .val (.int (5 : Int32))] [])
    refine own_go (fun t k => XS.iload X112.here hx rfl (hb hby at_589) rfl k) ?_
    show own_G p e below _ T112 (mkF m 591 #[.val (.long i0), .second, .val (.long i1), .second, .val (.long i2), .second, .val (.int i3), .val (.ref a1), .val (.int (own_acc W 44)), .val (.int (6 : Int32)), .val (.int (5 : Int32)), .val (.int (5 : Int32))] [(.int (5 : Int32))])
    refine own_go (fun t k => XS.iload X112.here hx rfl (hb hby at_591) rfl k) ?_
    show own_G p e below _ T112 (mkF m 593 #[.val (.long i0), .second, .val (.long i1), .second, .val (.long i2), .second, .val (.int i3), .val (.ref a1), .val (.int (own_acc W 44)), .val (.int (6 : Int32)), .val (.int (5 : Int32)), .val (.int (5 : Int32))] [(.int (5 : Int32)), (.int (5 : Int32))])
    refine own_go (fun t k => XS.icmpNo X112.here hx rfl (hb hby at_593) rfl (by decide) k) ?_
    show own_G p e below _ T112 (mkF m 596 #[.val (.long i0), .second, .val (.long i1), .second, .val (.long i2), .second, .val (.int i3), .val (.ref a1), .val (.int (own_acc W 44)), .val (.int (6 : Int32)), .val (.int (5 : Int32)), .val (.int (5 : Int32))] [])
    refine own_go (fun t k => XS.iload X112.here hx rfl (hb hby at_596) rfl k) ?_
    show own_G p e below _ T112 (mkF m 598 #[.val (.long i0), .second, .val (.long i1), .second, .val (.long i2), .second, .val (.int i3), .val (.ref a1), .val (.int (own_acc W 44)), .val (.int (6 : Int32)), .val (.int (5 : Int32)), .val (.int (5 : Int32))] [(.int (5 : Int32))])
    refine own_go (fun t k => XS.iconst X112.here hx rfl (hb hby at_598) k) ?_
    show own_G p e below _ T112 (mkF m 599 #[.val (.long i0), .second, .val (.long i1), .second, .val (.long i2), .second, .val (.int i3), .val (.ref a1), .val (.int (own_acc W 44)), .val (.int (6 : Int32)), .val (.int (5 : Int32)), .val (.int (5 : Int32))] [(.int (1 : Int32)), (.int (5 : Int32))])
    refine own_go (fun t k => XS.icmpNo X112.here hx rfl (hb hby at_599) rfl (by decide) k) ?_
    show own_G p e below _ T112 (mkF m 602 #[.val (.long i0), .second, .val (.long i1), .second, .val (.long i2), .second, .val (.int i3), .val (.ref a1), .val (.int (own_acc W 44)), .val (.int (6 : Int32)), .val (.int (5 : Int32)), .val (.int (5 : Int32))] [])
    refine own_go (fun t k => XS.iload X112.here hx rfl (hb hby at_602) rfl k) ?_
    show own_G p e below _ T112 (mkF m 604 #[.val (.long i0), .second, .val (.long i1), .second, .val (.long i2), .second, .val (.int i3), .val (.ref a1), .val (.int (own_acc W 44)), .val (.int (6 : Int32)), .val (.int (5 : Int32)), .val (.int (5 : Int32))] [(.int (5 : Int32))])
    refine own_go (fun t k => XS.bipush X112.here hx rfl (hb hby at_604) k) ?_
    show own_G p e below _ T112 (mkF m 606 #[.val (.long i0), .second, .val (.long i1), .second, .val (.long i2), .second, .val (.int i3), .val (.ref a1), .val (.int (own_acc W 44)), .val (.int (6 : Int32)), .val (.int (5 : Int32)), .val (.int (5 : Int32))] [(.int (9 : Int32)), (.int (5 : Int32))])
    refine own_go (fun t k => XS.icmpNo X112.here hx rfl (hb hby at_606) rfl (by decide) k) ?_
    show own_G p e below _ T112 (mkF m 609 #[.val (.long i0), .second, .val (.long i1), .second, .val (.long i2), .second, .val (.int i3), .val (.ref a1), .val (.int (own_acc W 44)), .val (.int (6 : Int32)), .val (.int (5 : Int32)), .val (.int (5 : Int32))] [])
    refine own_go (fun t k => XS.iconst X112.here hx rfl (hb hby at_609) k) ?_
    show own_G p e below _ T112 (mkF m 610 #[.val (.long i0), .second, .val (.long i1), .second, .val (.long i2), .second, .val (.int i3), .val (.ref a1), .val (.int (own_acc W 44)), .val (.int (6 : Int32)), .val (.int (5 : Int32)), .val (.int (5 : Int32))] [(.int (1 : Int32))])
    refine own_go (fun t k => XS.goto X112.here hx rfl (pc0 := 610) (pc' := 614) rfl (hb hby at_610) (by decide) (by decide) k) ?_
    show own_G p e below _ T112 (mkF m 614 #[.val (.long i0), .second, .val (.long i1), .second, .val (.long i2), .second, .val (.int i3), .val (.ref a1), .val (.int (own_acc W 44)), .val (.int (6 : Int32)), .val (.int (5 : Int32)), .val (.int (5 : Int32))] [(.int (1 : Int32))])
    exact own_retN X112 hx hlk hret (by simp) (hb hby at_614) (by decide) (by decide) ⟨rfl, N112⟩
  · rw [hk99]
    show own_G p e below _ T98 (mkF m 563 #[.val (.long i0), .second, .val (.long i1), .second, .val (.long i2), .second, .val (.int i3), .val (.ref a1), .val (.int (own_acc W 44)), .unset, .unset, .unset] [(.int (7 : Int32))])
    refine own_go (fun t k => XS.istore X98.here hx rfl (hb hby at_563) rfl (l' := #[.val (.long i0), .second, .val (.long i1), .second, .val (.long i2), .second, .val (.int i3), .val (.ref a1), .val (.int (own_acc W 44)), .val (.int (7 : Int32)), .unset, .unset]) rfl k) ?_
    show own_G p e below _ T98 (mkF m 565 #[.val (.long i0), .second, .val (.long i1), .second, .val (.long i2), .second, .val (.int i3), .val (.ref a1), .val (.int (own_acc W 44)), .val (.int (7 : Int32)), .unset, .unset] [])
    refine own_go (fun t k => XS.iload X98.here hx rfl (hb hby at_565) rfl k) ?_
    show own_G p e below _ T98 (mkF m 567 #[.val (.long i0), .second, .val (.long i1), .second, .val (.long i2), .second, .val (.int i3), .val (.ref a1), .val (.int (own_acc W 44)), .val (.int (7 : Int32)), .unset, .unset] [(.int (7 : Int32))])
    refine own_go (fun t k => XS.iconst X98.here hx rfl (hb hby at_567) k) ?_
    show own_G p e below _ T98 (mkF m 568 #[.val (.long i0), .second, .val (.long i1), .second, .val (.long i2), .second, .val (.int i3), .val (.ref a1), .val (.int (own_acc W 44)), .val (.int (7 : Int32)), .unset, .unset] [(.int (1 : Int32)), (.int (7 : Int32))])
    refine own_go (fun t k => XS.icmpYes X98.here hx rfl (pc0 := 568) (pc' := 575) rfl (hb hby at_568) rfl (by decide) (by decide) (by decide) k) ?_
    show own_G p e below _ T98 (mkF m 575 #[.val (.long i0), .second, .val (.long i1), .second, .val (.long i2), .second, .val (.int i3), .val (.ref a1), .val (.int (own_acc W 44)), .val (.int (7 : Int32)), .unset, .unset] [])
    refine own_go (fun t k => XS.bipush X98.here hx rfl (hb hby at_575) k) ?_
    show own_G p e below _ T98 (mkF m 577 #[.val (.long i0), .second, .val (.long i1), .second, .val (.long i2), .second, .val (.int i3), .val (.ref a1), .val (.int (own_acc W 44)), .val (.int (7 : Int32)), .unset, .unset] [(.int (11 : Int32))])
    refine own_go (fun t k => XS.iload X98.here hx rfl (hb hby at_577) rfl k) ?_
    show own_G p e below _ T98 (mkF m 579 #[.val (.long i0), .second, .val (.long i1), .second, .val (.long i2), .second, .val (.int i3), .val (.ref a1), .val (.int (own_acc W 44)), .val (.int (7 : Int32)), .unset, .unset] [(.int (7 : Int32)), (.int (11 : Int32))])
    refine own_go (fun t k => XS.isub X98.here hx rfl (hb hby at_579) rfl k) ?_
    show own_G p e below _ T98 (mkF m 580 #[.val (.long i0), .second, .val (.long i1), .second, .val (.long i2), .second, .val (.int i3), .val (.ref a1), .val (.int (own_acc W 44)), .val (.int (7 : Int32)), .unset, .unset] [(.int (4 : Int32))])
    refine own_go (fun t k => XS.istore X98.here hx rfl (hb hby at_580) rfl (l' := #[.val (.long i0), .second, .val (.long i1), .second, .val (.long i2), .second, .val (.int i3), .val (.ref a1), .val (.int (own_acc W 44)), .val (.int (7 : Int32)), .val (.int (4 : Int32)), .unset]) rfl k) ?_
    show own_G p e below _ T98 (mkF m 582 #[.val (.long i0), .second, .val (.long i1), .second, .val (.long i2), .second, .val (.int i3), .val (.ref a1), .val (.int (own_acc W 44)), .val (.int (7 : Int32)), .val (.int (4 : Int32)), .unset] [])
    refine own_go (fun t k => XS.aload X98.here hx rfl (hb hby at_582) rfl rfl k) ?_
    show own_G p e below _ T98 (mkF m 584 #[.val (.long i0), .second, .val (.long i1), .second, .val (.long i2), .second, .val (.int i3), .val (.ref a1), .val (.int (own_acc W 44)), .val (.int (7 : Int32)), .val (.int (4 : Int32)), .unset] [(.ref a1)])
    obtain ⟨T114, L114, v114, X114, ⟨rfl, rfl, q114⟩, st114⟩ := own_callS X98 hx hZ (y := (⟨"com/example/compensa/compensa/CheckDigits", "generalDigit", "([C)I"⟩ : MethodName)) hown (hw _ (List.mem_of_getElem? (i := 16) rfl)) (hw _ (List.mem_of_getElem? (i := 17) rfl)) (hw _ (List.mem_of_getElem? (i := 18) rfl)) (hw _ (List.mem_of_getElem? (i := 19) rfl)) (by decide) (c_gd l Z a0 hw a_GENERAL_DIGIT_WEIGHTS cl_GENERAL_DIGIT_WEIGHTS a1 cl W h88 (own_B_ext x88 B) A88 hsz hat) q98 (argsL := [(.ref a1)]) (rest := []) (g := (mkF m 584 #[.val (.long i0), .second, .val (.long i1), .second, .val (.long i2), .second, .val (.int i3), .val (.ref a1), .val (.int (own_acc W 44)), .val (.int (7 : Int32)), .val (.int (4 : Int32)), .unset] [(.ref a1)])) rfl (by rw [hml]; rfl) (ps := [(.array .char)]) (r := (some .int)) (by decide +kernel) rfl rfl (W := 0) (by show 2 * 0 + _ ≤ _; exact Nat.le_of_eq rfl) (hb hby at_584) (by decide) (by decide) (by decide) (by decide)
    have N114 := Fr.app N98 (Fr.nil n0)
    refine own_go st114 ?_
    show own_G p e below _ T114 (mkF m 587 #[.val (.long i0), .second, .val (.long i1), .second, .val (.long i2), .second, .val (.int i3), .val (.ref a1), .val (.int (own_acc W 44)), .val (.int (7 : Int32)), .val (.int (4 : Int32)), .unset] [(.int (own_g (own_acc W 44)))])
    have r115 : own_g (own_acc W 44) = (4 : Int32) := by unfold own_g; rw [hk99]; decide
    rw [r115]
    show own_G p e below _ T114 (mkF m 587 #[.val (.long i0), .second, .val (.long i1), .second, .val (.long i2), .second, .val (.int i3), .val (.ref a1), .val (.int (own_acc W 44)), .val (.int (7 : Int32)), .val (.int (4 : Int32)), .unset] [(.int (4 : Int32))])
    refine own_go (fun t k => XS.istore X114.here hx rfl (hb hby at_587) rfl (l' := #[.val (.long i0), .second, .val (.long i1), .second, .val (.long i2), .second, .val (.int i3), .val (.ref a1), .val (.int (own_acc W 44)), .val (.int (7 : Int32)), .val (.int (4 : Int32)), .val (.int (4 : Int32))]) rfl k) ?_
    show own_G p e below _ T114 (mkF m 589 #[.val (.long i0), .second, .val (.long i1), .second, .val (.long i2), .second, .val (.int i3), .val (.ref a1), .val (.int (own_acc W 44)), .val (.int (7 : Int32)), .val (.int (4 : Int32)), .val (.int (4 : Int32))] [])
    refine own_go (fun t k => XS.iload X114.here hx rfl (hb hby at_589) rfl k) ?_
    show own_G p e below _ T114 (mkF m 591 #[.val (.long i0), .second, .val (.long i1), .second, .val (.long i2), .second, .val (.int i3), .val (.ref a1), .val (.int (own_acc W 44)), .val (.int (7 : Int32)), .val (.int (4 : Int32)), .val (.int (4 : Int32))] [(.int (4 : Int32))])
    refine own_go (fun t k => XS.iload X114.here hx rfl (hb hby at_591) rfl k) ?_
    show own_G p e below _ T114 (mkF m 593 #[.val (.long i0), .second, .val (.long i1), .second, .val (.long i2), .second, .val (.int i3), .val (.ref a1), .val (.int (own_acc W 44)), .val (.int (7 : Int32)), .val (.int (4 : Int32)), .val (.int (4 : Int32))] [(.int (4 : Int32)), (.int (4 : Int32))])
    refine own_go (fun t k => XS.icmpNo X114.here hx rfl (hb hby at_593) rfl (by decide) k) ?_
    show own_G p e below _ T114 (mkF m 596 #[.val (.long i0), .second, .val (.long i1), .second, .val (.long i2), .second, .val (.int i3), .val (.ref a1), .val (.int (own_acc W 44)), .val (.int (7 : Int32)), .val (.int (4 : Int32)), .val (.int (4 : Int32))] [])
    refine own_go (fun t k => XS.iload X114.here hx rfl (hb hby at_596) rfl k) ?_
    show own_G p e below _ T114 (mkF m 598 #[.val (.long i0), .second, .val (.long i1), .second, .val (.long i2), .second, .val (.int i3), .val (.ref a1), .val (.int (own_acc W 44)), .val (.int (7 : Int32)), .val (.int (4 : Int32)), .val (.int (4 : Int32))] [(.int (4 : Int32))])
    refine own_go (fun t k => XS.iconst X114.here hx rfl (hb hby at_598) k) ?_
    show own_G p e below _ T114 (mkF m 599 #[.val (.long i0), .second, .val (.long i1), .second, .val (.long i2), .second, .val (.int i3), .val (.ref a1), .val (.int (own_acc W 44)), .val (.int (7 : Int32)), .val (.int (4 : Int32)), .val (.int (4 : Int32))] [(.int (1 : Int32)), (.int (4 : Int32))])
    refine own_go (fun t k => XS.icmpNo X114.here hx rfl (hb hby at_599) rfl (by decide) k) ?_
    show own_G p e below _ T114 (mkF m 602 #[.val (.long i0), .second, .val (.long i1), .second, .val (.long i2), .second, .val (.int i3), .val (.ref a1), .val (.int (own_acc W 44)), .val (.int (7 : Int32)), .val (.int (4 : Int32)), .val (.int (4 : Int32))] [])
    refine own_go (fun t k => XS.iload X114.here hx rfl (hb hby at_602) rfl k) ?_
    show own_G p e below _ T114 (mkF m 604 #[.val (.long i0), .second, .val (.long i1), .second, .val (.long i2), .second, .val (.int i3), .val (.ref a1), .val (.int (own_acc W 44)), .val (.int (7 : Int32)), .val (.int (4 : Int32)), .val (.int (4 : Int32))] [(.int (4 : Int32))])
    refine own_go (fun t k => XS.bipush X114.here hx rfl (hb hby at_604) k) ?_
    show own_G p e below _ T114 (mkF m 606 #[.val (.long i0), .second, .val (.long i1), .second, .val (.long i2), .second, .val (.int i3), .val (.ref a1), .val (.int (own_acc W 44)), .val (.int (7 : Int32)), .val (.int (4 : Int32)), .val (.int (4 : Int32))] [(.int (9 : Int32)), (.int (4 : Int32))])
    refine own_go (fun t k => XS.icmpNo X114.here hx rfl (hb hby at_606) rfl (by decide) k) ?_
    show own_G p e below _ T114 (mkF m 609 #[.val (.long i0), .second, .val (.long i1), .second, .val (.long i2), .second, .val (.int i3), .val (.ref a1), .val (.int (own_acc W 44)), .val (.int (7 : Int32)), .val (.int (4 : Int32)), .val (.int (4 : Int32))] [])
    refine own_go (fun t k => XS.iconst X114.here hx rfl (hb hby at_609) k) ?_
    show own_G p e below _ T114 (mkF m 610 #[.val (.long i0), .second, .val (.long i1), .second, .val (.long i2), .second, .val (.int i3), .val (.ref a1), .val (.int (own_acc W 44)), .val (.int (7 : Int32)), .val (.int (4 : Int32)), .val (.int (4 : Int32))] [(.int (1 : Int32))])
    refine own_go (fun t k => XS.goto X114.here hx rfl (pc0 := 610) (pc' := 614) rfl (hb hby at_610) (by decide) (by decide) k) ?_
    show own_G p e below _ T114 (mkF m 614 #[.val (.long i0), .second, .val (.long i1), .second, .val (.long i2), .second, .val (.int i3), .val (.ref a1), .val (.int (own_acc W 44)), .val (.int (7 : Int32)), .val (.int (4 : Int32)), .val (.int (4 : Int32))] [(.int (1 : Int32))])
    exact own_retN X114 hx hlk hret (by simp) (hb hby at_614) (by decide) (by decide) ⟨rfl, N114⟩
  · rw [hk99]
    show own_G p e below _ T98 (mkF m 563 #[.val (.long i0), .second, .val (.long i1), .second, .val (.long i2), .second, .val (.int i3), .val (.ref a1), .val (.int (own_acc W 44)), .unset, .unset, .unset] [(.int (8 : Int32))])
    refine own_go (fun t k => XS.istore X98.here hx rfl (hb hby at_563) rfl (l' := #[.val (.long i0), .second, .val (.long i1), .second, .val (.long i2), .second, .val (.int i3), .val (.ref a1), .val (.int (own_acc W 44)), .val (.int (8 : Int32)), .unset, .unset]) rfl k) ?_
    show own_G p e below _ T98 (mkF m 565 #[.val (.long i0), .second, .val (.long i1), .second, .val (.long i2), .second, .val (.int i3), .val (.ref a1), .val (.int (own_acc W 44)), .val (.int (8 : Int32)), .unset, .unset] [])
    refine own_go (fun t k => XS.iload X98.here hx rfl (hb hby at_565) rfl k) ?_
    show own_G p e below _ T98 (mkF m 567 #[.val (.long i0), .second, .val (.long i1), .second, .val (.long i2), .second, .val (.int i3), .val (.ref a1), .val (.int (own_acc W 44)), .val (.int (8 : Int32)), .unset, .unset] [(.int (8 : Int32))])
    refine own_go (fun t k => XS.iconst X98.here hx rfl (hb hby at_567) k) ?_
    show own_G p e below _ T98 (mkF m 568 #[.val (.long i0), .second, .val (.long i1), .second, .val (.long i2), .second, .val (.int i3), .val (.ref a1), .val (.int (own_acc W 44)), .val (.int (8 : Int32)), .unset, .unset] [(.int (1 : Int32)), (.int (8 : Int32))])
    refine own_go (fun t k => XS.icmpYes X98.here hx rfl (pc0 := 568) (pc' := 575) rfl (hb hby at_568) rfl (by decide) (by decide) (by decide) k) ?_
    show own_G p e below _ T98 (mkF m 575 #[.val (.long i0), .second, .val (.long i1), .second, .val (.long i2), .second, .val (.int i3), .val (.ref a1), .val (.int (own_acc W 44)), .val (.int (8 : Int32)), .unset, .unset] [])
    refine own_go (fun t k => XS.bipush X98.here hx rfl (hb hby at_575) k) ?_
    show own_G p e below _ T98 (mkF m 577 #[.val (.long i0), .second, .val (.long i1), .second, .val (.long i2), .second, .val (.int i3), .val (.ref a1), .val (.int (own_acc W 44)), .val (.int (8 : Int32)), .unset, .unset] [(.int (11 : Int32))])
    refine own_go (fun t k => XS.iload X98.here hx rfl (hb hby at_577) rfl k) ?_
    show own_G p e below _ T98 (mkF m 579 #[.val (.long i0), .second, .val (.long i1), .second, .val (.long i2), .second, .val (.int i3), .val (.ref a1), .val (.int (own_acc W 44)), .val (.int (8 : Int32)), .unset, .unset] [(.int (8 : Int32)), (.int (11 : Int32))])
    refine own_go (fun t k => XS.isub X98.here hx rfl (hb hby at_579) rfl k) ?_
    show own_G p e below _ T98 (mkF m 580 #[.val (.long i0), .second, .val (.long i1), .second, .val (.long i2), .second, .val (.int i3), .val (.ref a1), .val (.int (own_acc W 44)), .val (.int (8 : Int32)), .unset, .unset] [(.int (3 : Int32))])
    refine own_go (fun t k => XS.istore X98.here hx rfl (hb hby at_580) rfl (l' := #[.val (.long i0), .second, .val (.long i1), .second, .val (.long i2), .second, .val (.int i3), .val (.ref a1), .val (.int (own_acc W 44)), .val (.int (8 : Int32)), .val (.int (3 : Int32)), .unset]) rfl k) ?_
    show own_G p e below _ T98 (mkF m 582 #[.val (.long i0), .second, .val (.long i1), .second, .val (.long i2), .second, .val (.int i3), .val (.ref a1), .val (.int (own_acc W 44)), .val (.int (8 : Int32)), .val (.int (3 : Int32)), .unset] [])
    refine own_go (fun t k => XS.aload X98.here hx rfl (hb hby at_582) rfl rfl k) ?_
    show own_G p e below _ T98 (mkF m 584 #[.val (.long i0), .second, .val (.long i1), .second, .val (.long i2), .second, .val (.int i3), .val (.ref a1), .val (.int (own_acc W 44)), .val (.int (8 : Int32)), .val (.int (3 : Int32)), .unset] [(.ref a1)])
    obtain ⟨T116, L116, v116, X116, ⟨rfl, rfl, q116⟩, st116⟩ := own_callS X98 hx hZ (y := (⟨"com/example/compensa/compensa/CheckDigits", "generalDigit", "([C)I"⟩ : MethodName)) hown (hw _ (List.mem_of_getElem? (i := 16) rfl)) (hw _ (List.mem_of_getElem? (i := 17) rfl)) (hw _ (List.mem_of_getElem? (i := 18) rfl)) (hw _ (List.mem_of_getElem? (i := 19) rfl)) (by decide) (c_gd l Z a0 hw a_GENERAL_DIGIT_WEIGHTS cl_GENERAL_DIGIT_WEIGHTS a1 cl W h88 (own_B_ext x88 B) A88 hsz hat) q98 (argsL := [(.ref a1)]) (rest := []) (g := (mkF m 584 #[.val (.long i0), .second, .val (.long i1), .second, .val (.long i2), .second, .val (.int i3), .val (.ref a1), .val (.int (own_acc W 44)), .val (.int (8 : Int32)), .val (.int (3 : Int32)), .unset] [(.ref a1)])) rfl (by rw [hml]; rfl) (ps := [(.array .char)]) (r := (some .int)) (by decide +kernel) rfl rfl (W := 0) (by show 2 * 0 + _ ≤ _; exact Nat.le_of_eq rfl) (hb hby at_584) (by decide) (by decide) (by decide) (by decide)
    have N116 := Fr.app N98 (Fr.nil n0)
    refine own_go st116 ?_
    show own_G p e below _ T116 (mkF m 587 #[.val (.long i0), .second, .val (.long i1), .second, .val (.long i2), .second, .val (.int i3), .val (.ref a1), .val (.int (own_acc W 44)), .val (.int (8 : Int32)), .val (.int (3 : Int32)), .unset] [(.int (own_g (own_acc W 44)))])
    have r117 : own_g (own_acc W 44) = (3 : Int32) := by unfold own_g; rw [hk99]; decide
    rw [r117]
    show own_G p e below _ T116 (mkF m 587 #[.val (.long i0), .second, .val (.long i1), .second, .val (.long i2), .second, .val (.int i3), .val (.ref a1), .val (.int (own_acc W 44)), .val (.int (8 : Int32)), .val (.int (3 : Int32)), .unset] [(.int (3 : Int32))])
    refine own_go (fun t k => XS.istore X116.here hx rfl (hb hby at_587) rfl (l' := #[.val (.long i0), .second, .val (.long i1), .second, .val (.long i2), .second, .val (.int i3), .val (.ref a1), .val (.int (own_acc W 44)), .val (.int (8 : Int32)), .val (.int (3 : Int32)), .val (.int (3 : Int32))]) rfl k) ?_
    show own_G p e below _ T116 (mkF m 589 #[.val (.long i0), .second, .val (.long i1), .second, .val (.long i2), .second, .val (.int i3), .val (.ref a1), .val (.int (own_acc W 44)), .val (.int (8 : Int32)), .val (.int (3 : Int32)), .val (.int (3 : Int32))] [])
    refine own_go (fun t k => XS.iload X116.here hx rfl (hb hby at_589) rfl k) ?_
    show own_G p e below _ T116 (mkF m 591 #[.val (.long i0), .second, .val (.long i1), .second, .val (.long i2), .second, .val (.int i3), .val (.ref a1), .val (.int (own_acc W 44)), .val (.int (8 : Int32)), .val (.int (3 : Int32)), .val (.int (3 : Int32))] [(.int (3 : Int32))])
    refine own_go (fun t k => XS.iload X116.here hx rfl (hb hby at_591) rfl k) ?_
    show own_G p e below _ T116 (mkF m 593 #[.val (.long i0), .second, .val (.long i1), .second, .val (.long i2), .second, .val (.int i3), .val (.ref a1), .val (.int (own_acc W 44)), .val (.int (8 : Int32)), .val (.int (3 : Int32)), .val (.int (3 : Int32))] [(.int (3 : Int32)), (.int (3 : Int32))])
    refine own_go (fun t k => XS.icmpNo X116.here hx rfl (hb hby at_593) rfl (by decide) k) ?_
    show own_G p e below _ T116 (mkF m 596 #[.val (.long i0), .second, .val (.long i1), .second, .val (.long i2), .second, .val (.int i3), .val (.ref a1), .val (.int (own_acc W 44)), .val (.int (8 : Int32)), .val (.int (3 : Int32)), .val (.int (3 : Int32))] [])
    refine own_go (fun t k => XS.iload X116.here hx rfl (hb hby at_596) rfl k) ?_
    show own_G p e below _ T116 (mkF m 598 #[.val (.long i0), .second, .val (.long i1), .second, .val (.long i2), .second, .val (.int i3), .val (.ref a1), .val (.int (own_acc W 44)), .val (.int (8 : Int32)), .val (.int (3 : Int32)), .val (.int (3 : Int32))] [(.int (3 : Int32))])
    refine own_go (fun t k => XS.iconst X116.here hx rfl (hb hby at_598) k) ?_
    show own_G p e below _ T116 (mkF m 599 #[.val (.long i0), .second, .val (.long i1), .second, .val (.long i2), .second, .val (.int i3), .val (.ref a1), .val (.int (own_acc W 44)), .val (.int (8 : Int32)), .val (.int (3 : Int32)), .val (.int (3 : Int32))] [(.int (1 : Int32)), (.int (3 : Int32))])
    refine own_go (fun t k => XS.icmpNo X116.here hx rfl (hb hby at_599) rfl (by decide) k) ?_
    show own_G p e below _ T116 (mkF m 602 #[.val (.long i0), .second, .val (.long i1), .second, .val (.long i2), .second, .val (.int i3), .val (.ref a1), .val (.int (own_acc W 44)), .val (.int (8 : Int32)), .val (.int (3 : Int32)), .val (.int (3 : Int32))] [])
    refine own_go (fun t k => XS.iload X116.here hx rfl (hb hby at_602) rfl k) ?_
    show own_G p e below _ T116 (mkF m 604 #[.val (.long i0), .second, .val (.long i1), .second, .val (.long i2), .second, .val (.int i3), .val (.ref a1), .val (.int (own_acc W 44)), .val (.int (8 : Int32)), .val (.int (3 : Int32)), .val (.int (3 : Int32))] [(.int (3 : Int32))])
    refine own_go (fun t k => XS.bipush X116.here hx rfl (hb hby at_604) k) ?_
    show own_G p e below _ T116 (mkF m 606 #[.val (.long i0), .second, .val (.long i1), .second, .val (.long i2), .second, .val (.int i3), .val (.ref a1), .val (.int (own_acc W 44)), .val (.int (8 : Int32)), .val (.int (3 : Int32)), .val (.int (3 : Int32))] [(.int (9 : Int32)), (.int (3 : Int32))])
    refine own_go (fun t k => XS.icmpNo X116.here hx rfl (hb hby at_606) rfl (by decide) k) ?_
    show own_G p e below _ T116 (mkF m 609 #[.val (.long i0), .second, .val (.long i1), .second, .val (.long i2), .second, .val (.int i3), .val (.ref a1), .val (.int (own_acc W 44)), .val (.int (8 : Int32)), .val (.int (3 : Int32)), .val (.int (3 : Int32))] [])
    refine own_go (fun t k => XS.iconst X116.here hx rfl (hb hby at_609) k) ?_
    show own_G p e below _ T116 (mkF m 610 #[.val (.long i0), .second, .val (.long i1), .second, .val (.long i2), .second, .val (.int i3), .val (.ref a1), .val (.int (own_acc W 44)), .val (.int (8 : Int32)), .val (.int (3 : Int32)), .val (.int (3 : Int32))] [(.int (1 : Int32))])
    refine own_go (fun t k => XS.goto X116.here hx rfl (pc0 := 610) (pc' := 614) rfl (hb hby at_610) (by decide) (by decide) k) ?_
    show own_G p e below _ T116 (mkF m 614 #[.val (.long i0), .second, .val (.long i1), .second, .val (.long i2), .second, .val (.int i3), .val (.ref a1), .val (.int (own_acc W 44)), .val (.int (8 : Int32)), .val (.int (3 : Int32)), .val (.int (3 : Int32))] [(.int (1 : Int32))])
    exact own_retN X116 hx hlk hret (by simp) (hb hby at_614) (by decide) (by decide) ⟨rfl, N116⟩
  · rw [hk99]
    show own_G p e below _ T98 (mkF m 563 #[.val (.long i0), .second, .val (.long i1), .second, .val (.long i2), .second, .val (.int i3), .val (.ref a1), .val (.int (own_acc W 44)), .unset, .unset, .unset] [(.int (9 : Int32))])
    refine own_go (fun t k => XS.istore X98.here hx rfl (hb hby at_563) rfl (l' := #[.val (.long i0), .second, .val (.long i1), .second, .val (.long i2), .second, .val (.int i3), .val (.ref a1), .val (.int (own_acc W 44)), .val (.int (9 : Int32)), .unset, .unset]) rfl k) ?_
    show own_G p e below _ T98 (mkF m 565 #[.val (.long i0), .second, .val (.long i1), .second, .val (.long i2), .second, .val (.int i3), .val (.ref a1), .val (.int (own_acc W 44)), .val (.int (9 : Int32)), .unset, .unset] [])
    refine own_go (fun t k => XS.iload X98.here hx rfl (hb hby at_565) rfl k) ?_
    show own_G p e below _ T98 (mkF m 567 #[.val (.long i0), .second, .val (.long i1), .second, .val (.long i2), .second, .val (.int i3), .val (.ref a1), .val (.int (own_acc W 44)), .val (.int (9 : Int32)), .unset, .unset] [(.int (9 : Int32))])
    refine own_go (fun t k => XS.iconst X98.here hx rfl (hb hby at_567) k) ?_
    show own_G p e below _ T98 (mkF m 568 #[.val (.long i0), .second, .val (.long i1), .second, .val (.long i2), .second, .val (.int i3), .val (.ref a1), .val (.int (own_acc W 44)), .val (.int (9 : Int32)), .unset, .unset] [(.int (1 : Int32)), (.int (9 : Int32))])
    refine own_go (fun t k => XS.icmpYes X98.here hx rfl (pc0 := 568) (pc' := 575) rfl (hb hby at_568) rfl (by decide) (by decide) (by decide) k) ?_
    show own_G p e below _ T98 (mkF m 575 #[.val (.long i0), .second, .val (.long i1), .second, .val (.long i2), .second, .val (.int i3), .val (.ref a1), .val (.int (own_acc W 44)), .val (.int (9 : Int32)), .unset, .unset] [])
    refine own_go (fun t k => XS.bipush X98.here hx rfl (hb hby at_575) k) ?_
    show own_G p e below _ T98 (mkF m 577 #[.val (.long i0), .second, .val (.long i1), .second, .val (.long i2), .second, .val (.int i3), .val (.ref a1), .val (.int (own_acc W 44)), .val (.int (9 : Int32)), .unset, .unset] [(.int (11 : Int32))])
    refine own_go (fun t k => XS.iload X98.here hx rfl (hb hby at_577) rfl k) ?_
    show own_G p e below _ T98 (mkF m 579 #[.val (.long i0), .second, .val (.long i1), .second, .val (.long i2), .second, .val (.int i3), .val (.ref a1), .val (.int (own_acc W 44)), .val (.int (9 : Int32)), .unset, .unset] [(.int (9 : Int32)), (.int (11 : Int32))])
    refine own_go (fun t k => XS.isub X98.here hx rfl (hb hby at_579) rfl k) ?_
    show own_G p e below _ T98 (mkF m 580 #[.val (.long i0), .second, .val (.long i1), .second, .val (.long i2), .second, .val (.int i3), .val (.ref a1), .val (.int (own_acc W 44)), .val (.int (9 : Int32)), .unset, .unset] [(.int (2 : Int32))])
    refine own_go (fun t k => XS.istore X98.here hx rfl (hb hby at_580) rfl (l' := #[.val (.long i0), .second, .val (.long i1), .second, .val (.long i2), .second, .val (.int i3), .val (.ref a1), .val (.int (own_acc W 44)), .val (.int (9 : Int32)), .val (.int (2 : Int32)), .unset]) rfl k) ?_
    show own_G p e below _ T98 (mkF m 582 #[.val (.long i0), .second, .val (.long i1), .second, .val (.long i2), .second, .val (.int i3), .val (.ref a1), .val (.int (own_acc W 44)), .val (.int (9 : Int32)), .val (.int (2 : Int32)), .unset] [])
    refine own_go (fun t k => XS.aload X98.here hx rfl (hb hby at_582) rfl rfl k) ?_
    show own_G p e below _ T98 (mkF m 584 #[.val (.long i0), .second, .val (.long i1), .second, .val (.long i2), .second, .val (.int i3), .val (.ref a1), .val (.int (own_acc W 44)), .val (.int (9 : Int32)), .val (.int (2 : Int32)), .unset] [(.ref a1)])
    obtain ⟨T118, L118, v118, X118, ⟨rfl, rfl, q118⟩, st118⟩ := own_callS X98 hx hZ (y := (⟨"com/example/compensa/compensa/CheckDigits", "generalDigit", "([C)I"⟩ : MethodName)) hown (hw _ (List.mem_of_getElem? (i := 16) rfl)) (hw _ (List.mem_of_getElem? (i := 17) rfl)) (hw _ (List.mem_of_getElem? (i := 18) rfl)) (hw _ (List.mem_of_getElem? (i := 19) rfl)) (by decide) (c_gd l Z a0 hw a_GENERAL_DIGIT_WEIGHTS cl_GENERAL_DIGIT_WEIGHTS a1 cl W h88 (own_B_ext x88 B) A88 hsz hat) q98 (argsL := [(.ref a1)]) (rest := []) (g := (mkF m 584 #[.val (.long i0), .second, .val (.long i1), .second, .val (.long i2), .second, .val (.int i3), .val (.ref a1), .val (.int (own_acc W 44)), .val (.int (9 : Int32)), .val (.int (2 : Int32)), .unset] [(.ref a1)])) rfl (by rw [hml]; rfl) (ps := [(.array .char)]) (r := (some .int)) (by decide +kernel) rfl rfl (W := 0) (by show 2 * 0 + _ ≤ _; exact Nat.le_of_eq rfl) (hb hby at_584) (by decide) (by decide) (by decide) (by decide)
    have N118 := Fr.app N98 (Fr.nil n0)
    refine own_go st118 ?_
    show own_G p e below _ T118 (mkF m 587 #[.val (.long i0), .second, .val (.long i1), .second, .val (.long i2), .second, .val (.int i3), .val (.ref a1), .val (.int (own_acc W 44)), .val (.int (9 : Int32)), .val (.int (2 : Int32)), .unset] [(.int (own_g (own_acc W 44)))])
    have r119 : own_g (own_acc W 44) = (2 : Int32) := by unfold own_g; rw [hk99]; decide
    rw [r119]
    show own_G p e below _ T118 (mkF m 587 #[.val (.long i0), .second, .val (.long i1), .second, .val (.long i2), .second, .val (.int i3), .val (.ref a1), .val (.int (own_acc W 44)), .val (.int (9 : Int32)), .val (.int (2 : Int32)), .unset] [(.int (2 : Int32))])
    refine own_go (fun t k => XS.istore X118.here hx rfl (hb hby at_587) rfl (l' := #[.val (.long i0), .second, .val (.long i1), .second, .val (.long i2), .second, .val (.int i3), .val (.ref a1), .val (.int (own_acc W 44)), .val (.int (9 : Int32)), .val (.int (2 : Int32)), .val (.int (2 : Int32))]) rfl k) ?_
    show own_G p e below _ T118 (mkF m 589 #[.val (.long i0), .second, .val (.long i1), .second, .val (.long i2), .second, .val (.int i3), .val (.ref a1), .val (.int (own_acc W 44)), .val (.int (9 : Int32)), .val (.int (2 : Int32)), .val (.int (2 : Int32))] [])
    refine own_go (fun t k => XS.iload X118.here hx rfl (hb hby at_589) rfl k) ?_
    show own_G p e below _ T118 (mkF m 591 #[.val (.long i0), .second, .val (.long i1), .second, .val (.long i2), .second, .val (.int i3), .val (.ref a1), .val (.int (own_acc W 44)), .val (.int (9 : Int32)), .val (.int (2 : Int32)), .val (.int (2 : Int32))] [(.int (2 : Int32))])
    refine own_go (fun t k => XS.iload X118.here hx rfl (hb hby at_591) rfl k) ?_
    show own_G p e below _ T118 (mkF m 593 #[.val (.long i0), .second, .val (.long i1), .second, .val (.long i2), .second, .val (.int i3), .val (.ref a1), .val (.int (own_acc W 44)), .val (.int (9 : Int32)), .val (.int (2 : Int32)), .val (.int (2 : Int32))] [(.int (2 : Int32)), (.int (2 : Int32))])
    refine own_go (fun t k => XS.icmpNo X118.here hx rfl (hb hby at_593) rfl (by decide) k) ?_
    show own_G p e below _ T118 (mkF m 596 #[.val (.long i0), .second, .val (.long i1), .second, .val (.long i2), .second, .val (.int i3), .val (.ref a1), .val (.int (own_acc W 44)), .val (.int (9 : Int32)), .val (.int (2 : Int32)), .val (.int (2 : Int32))] [])
    refine own_go (fun t k => XS.iload X118.here hx rfl (hb hby at_596) rfl k) ?_
    show own_G p e below _ T118 (mkF m 598 #[.val (.long i0), .second, .val (.long i1), .second, .val (.long i2), .second, .val (.int i3), .val (.ref a1), .val (.int (own_acc W 44)), .val (.int (9 : Int32)), .val (.int (2 : Int32)), .val (.int (2 : Int32))] [(.int (2 : Int32))])
    refine own_go (fun t k => XS.iconst X118.here hx rfl (hb hby at_598) k) ?_
    show own_G p e below _ T118 (mkF m 599 #[.val (.long i0), .second, .val (.long i1), .second, .val (.long i2), .second, .val (.int i3), .val (.ref a1), .val (.int (own_acc W 44)), .val (.int (9 : Int32)), .val (.int (2 : Int32)), .val (.int (2 : Int32))] [(.int (1 : Int32)), (.int (2 : Int32))])
    refine own_go (fun t k => XS.icmpNo X118.here hx rfl (hb hby at_599) rfl (by decide) k) ?_
    show own_G p e below _ T118 (mkF m 602 #[.val (.long i0), .second, .val (.long i1), .second, .val (.long i2), .second, .val (.int i3), .val (.ref a1), .val (.int (own_acc W 44)), .val (.int (9 : Int32)), .val (.int (2 : Int32)), .val (.int (2 : Int32))] [])
    refine own_go (fun t k => XS.iload X118.here hx rfl (hb hby at_602) rfl k) ?_
    show own_G p e below _ T118 (mkF m 604 #[.val (.long i0), .second, .val (.long i1), .second, .val (.long i2), .second, .val (.int i3), .val (.ref a1), .val (.int (own_acc W 44)), .val (.int (9 : Int32)), .val (.int (2 : Int32)), .val (.int (2 : Int32))] [(.int (2 : Int32))])
    refine own_go (fun t k => XS.bipush X118.here hx rfl (hb hby at_604) k) ?_
    show own_G p e below _ T118 (mkF m 606 #[.val (.long i0), .second, .val (.long i1), .second, .val (.long i2), .second, .val (.int i3), .val (.ref a1), .val (.int (own_acc W 44)), .val (.int (9 : Int32)), .val (.int (2 : Int32)), .val (.int (2 : Int32))] [(.int (9 : Int32)), (.int (2 : Int32))])
    refine own_go (fun t k => XS.icmpNo X118.here hx rfl (hb hby at_606) rfl (by decide) k) ?_
    show own_G p e below _ T118 (mkF m 609 #[.val (.long i0), .second, .val (.long i1), .second, .val (.long i2), .second, .val (.int i3), .val (.ref a1), .val (.int (own_acc W 44)), .val (.int (9 : Int32)), .val (.int (2 : Int32)), .val (.int (2 : Int32))] [])
    refine own_go (fun t k => XS.iconst X118.here hx rfl (hb hby at_609) k) ?_
    show own_G p e below _ T118 (mkF m 610 #[.val (.long i0), .second, .val (.long i1), .second, .val (.long i2), .second, .val (.int i3), .val (.ref a1), .val (.int (own_acc W 44)), .val (.int (9 : Int32)), .val (.int (2 : Int32)), .val (.int (2 : Int32))] [(.int (1 : Int32))])
    refine own_go (fun t k => XS.goto X118.here hx rfl (pc0 := 610) (pc' := 614) rfl (hb hby at_610) (by decide) (by decide) k) ?_
    show own_G p e below _ T118 (mkF m 614 #[.val (.long i0), .second, .val (.long i1), .second, .val (.long i2), .second, .val (.int i3), .val (.ref a1), .val (.int (own_acc W 44)), .val (.int (9 : Int32)), .val (.int (2 : Int32)), .val (.int (2 : Int32))] [(.int (1 : Int32))])
    exact own_retN X118 hx hlk hret (by simp) (hb hby at_614) (by decide) (by decide) ⟨rfl, N118⟩
  · rw [hk99]
    show own_G p e below _ T98 (mkF m 563 #[.val (.long i0), .second, .val (.long i1), .second, .val (.long i2), .second, .val (.int i3), .val (.ref a1), .val (.int (own_acc W 44)), .unset, .unset, .unset] [(.int (10 : Int32))])
    refine own_go (fun t k => XS.istore X98.here hx rfl (hb hby at_563) rfl (l' := #[.val (.long i0), .second, .val (.long i1), .second, .val (.long i2), .second, .val (.int i3), .val (.ref a1), .val (.int (own_acc W 44)), .val (.int (10 : Int32)), .unset, .unset]) rfl k) ?_
    show own_G p e below _ T98 (mkF m 565 #[.val (.long i0), .second, .val (.long i1), .second, .val (.long i2), .second, .val (.int i3), .val (.ref a1), .val (.int (own_acc W 44)), .val (.int (10 : Int32)), .unset, .unset] [])
    refine own_go (fun t k => XS.iload X98.here hx rfl (hb hby at_565) rfl k) ?_
    show own_G p e below _ T98 (mkF m 567 #[.val (.long i0), .second, .val (.long i1), .second, .val (.long i2), .second, .val (.int i3), .val (.ref a1), .val (.int (own_acc W 44)), .val (.int (10 : Int32)), .unset, .unset] [(.int (10 : Int32))])
    refine own_go (fun t k => XS.iconst X98.here hx rfl (hb hby at_567) k) ?_
    show own_G p e below _ T98 (mkF m 568 #[.val (.long i0), .second, .val (.long i1), .second, .val (.long i2), .second, .val (.int i3), .val (.ref a1), .val (.int (own_acc W 44)), .val (.int (10 : Int32)), .unset, .unset] [(.int (1 : Int32)), (.int (10 : Int32))])
    refine own_go (fun t k => XS.icmpYes X98.here hx rfl (pc0 := 568) (pc' := 575) rfl (hb hby at_568) rfl (by decide) (by decide) (by decide) k) ?_
    show own_G p e below _ T98 (mkF m 575 #[.val (.long i0), .second, .val (.long i1), .second, .val (.long i2), .second, .val (.int i3), .val (.ref a1), .val (.int (own_acc W 44)), .val (.int (10 : Int32)), .unset, .unset] [])
    refine own_go (fun t k => XS.bipush X98.here hx rfl (hb hby at_575) k) ?_
    show own_G p e below _ T98 (mkF m 577 #[.val (.long i0), .second, .val (.long i1), .second, .val (.long i2), .second, .val (.int i3), .val (.ref a1), .val (.int (own_acc W 44)), .val (.int (10 : Int32)), .unset, .unset] [(.int (11 : Int32))])
    refine own_go (fun t k => XS.iload X98.here hx rfl (hb hby at_577) rfl k) ?_
    show own_G p e below _ T98 (mkF m 579 #[.val (.long i0), .second, .val (.long i1), .second, .val (.long i2), .second, .val (.int i3), .val (.ref a1), .val (.int (own_acc W 44)), .val (.int (10 : Int32)), .unset, .unset] [(.int (10 : Int32)), (.int (11 : Int32))])
    refine own_go (fun t k => XS.isub X98.here hx rfl (hb hby at_579) rfl k) ?_
    show own_G p e below _ T98 (mkF m 580 #[.val (.long i0), .second, .val (.long i1), .second, .val (.long i2), .second, .val (.int i3), .val (.ref a1), .val (.int (own_acc W 44)), .val (.int (10 : Int32)), .unset, .unset] [(.int (1 : Int32))])
    refine own_go (fun t k => XS.istore X98.here hx rfl (hb hby at_580) rfl (l' := #[.val (.long i0), .second, .val (.long i1), .second, .val (.long i2), .second, .val (.int i3), .val (.ref a1), .val (.int (own_acc W 44)), .val (.int (10 : Int32)), .val (.int (1 : Int32)), .unset]) rfl k) ?_
    show own_G p e below _ T98 (mkF m 582 #[.val (.long i0), .second, .val (.long i1), .second, .val (.long i2), .second, .val (.int i3), .val (.ref a1), .val (.int (own_acc W 44)), .val (.int (10 : Int32)), .val (.int (1 : Int32)), .unset] [])
    refine own_go (fun t k => XS.aload X98.here hx rfl (hb hby at_582) rfl rfl k) ?_
    show own_G p e below _ T98 (mkF m 584 #[.val (.long i0), .second, .val (.long i1), .second, .val (.long i2), .second, .val (.int i3), .val (.ref a1), .val (.int (own_acc W 44)), .val (.int (10 : Int32)), .val (.int (1 : Int32)), .unset] [(.ref a1)])
    obtain ⟨T120, L120, v120, X120, ⟨rfl, rfl, q120⟩, st120⟩ := own_callS X98 hx hZ (y := (⟨"com/example/compensa/compensa/CheckDigits", "generalDigit", "([C)I"⟩ : MethodName)) hown (hw _ (List.mem_of_getElem? (i := 16) rfl)) (hw _ (List.mem_of_getElem? (i := 17) rfl)) (hw _ (List.mem_of_getElem? (i := 18) rfl)) (hw _ (List.mem_of_getElem? (i := 19) rfl)) (by decide) (c_gd l Z a0 hw a_GENERAL_DIGIT_WEIGHTS cl_GENERAL_DIGIT_WEIGHTS a1 cl W h88 (own_B_ext x88 B) A88 hsz hat) q98 (argsL := [(.ref a1)]) (rest := []) (g := (mkF m 584 #[.val (.long i0), .second, .val (.long i1), .second, .val (.long i2), .second, .val (.int i3), .val (.ref a1), .val (.int (own_acc W 44)), .val (.int (10 : Int32)), .val (.int (1 : Int32)), .unset] [(.ref a1)])) rfl (by rw [hml]; rfl) (ps := [(.array .char)]) (r := (some .int)) (by decide +kernel) rfl rfl (W := 0) (by show 2 * 0 + _ ≤ _; exact Nat.le_of_eq rfl) (hb hby at_584) (by decide) (by decide) (by decide) (by decide)
    have N120 := Fr.app N98 (Fr.nil n0)
    refine own_go st120 ?_
    show own_G p e below _ T120 (mkF m 587 #[.val (.long i0), .second, .val (.long i1), .second, .val (.long i2), .second, .val (.int i3), .val (.ref a1), .val (.int (own_acc W 44)), .val (.int (10 : Int32)), .val (.int (1 : Int32)), .unset] [(.int (own_g (own_acc W 44)))])
    have r121 : own_g (own_acc W 44) = (1 : Int32) := by unfold own_g; rw [hk99]; decide
    rw [r121]
    show own_G p e below _ T120 (mkF m 587 #[.val (.long i0), .second, .val (.long i1), .second, .val (.long i2), .second, .val (.int i3), .val (.ref a1), .val (.int (own_acc W 44)), .val (.int (10 : Int32)), .val (.int (1 : Int32)), .unset] [(.int (1 : Int32))])
    refine own_go (fun t k => XS.istore X120.here hx rfl (hb hby at_587) rfl (l' := #[.val (.long i0), .second, .val (.long i1), .second, .val (.long i2), .second, .val (.int i3), .val (.ref a1), .val (.int (own_acc W 44)), .val (.int (10 : Int32)), .val (.int (1 : Int32)), .val (.int (1 : Int32))]) rfl k) ?_
    show own_G p e below _ T120 (mkF m 589 #[.val (.long i0), .second, .val (.long i1), .second, .val (.long i2), .second, .val (.int i3), .val (.ref a1), .val (.int (own_acc W 44)), .val (.int (10 : Int32)), .val (.int (1 : Int32)), .val (.int (1 : Int32))] [])
    refine own_go (fun t k => XS.iload X120.here hx rfl (hb hby at_589) rfl k) ?_
    show own_G p e below _ T120 (mkF m 591 #[.val (.long i0), .second, .val (.long i1), .second, .val (.long i2), .second, .val (.int i3), .val (.ref a1), .val (.int (own_acc W 44)), .val (.int (10 : Int32)), .val (.int (1 : Int32)), .val (.int (1 : Int32))] [(.int (1 : Int32))])
    refine own_go (fun t k => XS.iload X120.here hx rfl (hb hby at_591) rfl k) ?_
    show own_G p e below _ T120 (mkF m 593 #[.val (.long i0), .second, .val (.long i1), .second, .val (.long i2), .second, .val (.int i3), .val (.ref a1), .val (.int (own_acc W 44)), .val (.int (10 : Int32)), .val (.int (1 : Int32)), .val (.int (1 : Int32))] [(.int (1 : Int32)), (.int (1 : Int32))])
    refine own_go (fun t k => XS.icmpNo X120.here hx rfl (hb hby at_593) rfl (by decide) k) ?_
    show own_G p e below _ T120 (mkF m 596 #[.val (.long i0), .second, .val (.long i1), .second, .val (.long i2), .second, .val (.int i3), .val (.ref a1), .val (.int (own_acc W 44)), .val (.int (10 : Int32)), .val (.int (1 : Int32)), .val (.int (1 : Int32))] [])
    refine own_go (fun t k => XS.iload X120.here hx rfl (hb hby at_596) rfl k) ?_
    show own_G p e below _ T120 (mkF m 598 #[.val (.long i0), .second, .val (.long i1), .second, .val (.long i2), .second, .val (.int i3), .val (.ref a1), .val (.int (own_acc W 44)), .val (.int (10 : Int32)), .val (.int (1 : Int32)), .val (.int (1 : Int32))] [(.int (1 : Int32))])
    refine own_go (fun t k => XS.iconst X120.here hx rfl (hb hby at_598) k) ?_
    show own_G p e below _ T120 (mkF m 599 #[.val (.long i0), .second, .val (.long i1), .second, .val (.long i2), .second, .val (.int i3), .val (.ref a1), .val (.int (own_acc W 44)), .val (.int (10 : Int32)), .val (.int (1 : Int32)), .val (.int (1 : Int32))] [(.int (1 : Int32)), (.int (1 : Int32))])
    refine own_go (fun t k => XS.icmpNo X120.here hx rfl (hb hby at_599) rfl (by decide) k) ?_
    show own_G p e below _ T120 (mkF m 602 #[.val (.long i0), .second, .val (.long i1), .second, .val (.long i2), .second, .val (.int i3), .val (.ref a1), .val (.int (own_acc W 44)), .val (.int (10 : Int32)), .val (.int (1 : Int32)), .val (.int (1 : Int32))] [])
    refine own_go (fun t k => XS.iload X120.here hx rfl (hb hby at_602) rfl k) ?_
    show own_G p e below _ T120 (mkF m 604 #[.val (.long i0), .second, .val (.long i1), .second, .val (.long i2), .second, .val (.int i3), .val (.ref a1), .val (.int (own_acc W 44)), .val (.int (10 : Int32)), .val (.int (1 : Int32)), .val (.int (1 : Int32))] [(.int (1 : Int32))])
    refine own_go (fun t k => XS.bipush X120.here hx rfl (hb hby at_604) k) ?_
    show own_G p e below _ T120 (mkF m 606 #[.val (.long i0), .second, .val (.long i1), .second, .val (.long i2), .second, .val (.int i3), .val (.ref a1), .val (.int (own_acc W 44)), .val (.int (10 : Int32)), .val (.int (1 : Int32)), .val (.int (1 : Int32))] [(.int (9 : Int32)), (.int (1 : Int32))])
    refine own_go (fun t k => XS.icmpNo X120.here hx rfl (hb hby at_606) rfl (by decide) k) ?_
    show own_G p e below _ T120 (mkF m 609 #[.val (.long i0), .second, .val (.long i1), .second, .val (.long i2), .second, .val (.int i3), .val (.ref a1), .val (.int (own_acc W 44)), .val (.int (10 : Int32)), .val (.int (1 : Int32)), .val (.int (1 : Int32))] [])
    refine own_go (fun t k => XS.iconst X120.here hx rfl (hb hby at_609) k) ?_
    show own_G p e below _ T120 (mkF m 610 #[.val (.long i0), .second, .val (.long i1), .second, .val (.long i2), .second, .val (.int i3), .val (.ref a1), .val (.int (own_acc W 44)), .val (.int (10 : Int32)), .val (.int (1 : Int32)), .val (.int (1 : Int32))] [(.int (1 : Int32))])
    refine own_go (fun t k => XS.goto X120.here hx rfl (pc0 := 610) (pc' := 614) rfl (hb hby at_610) (by decide) (by decide) k) ?_
    show own_G p e below _ T120 (mkF m 614 #[.val (.long i0), .second, .val (.long i1), .second, .val (.long i2), .second, .val (.int i3), .val (.ref a1), .val (.int (own_acc W 44)), .val (.int (10 : Int32)), .val (.int (1 : Int32)), .val (.int (1 : Int32))] [(.int (1 : Int32))])
    exact own_retN X120 hx hlk hret (by simp) (hb hby at_614) (by decide) (by decide) ⟨rfl, N120⟩
set_option maxRecDepth 65536 in
set_option maxHeartbeats 40000000 in
theorem comes_1 {Post : Tables → Env → Array Value → State → Outcome → State → Prop} (hpost : ∀ tb e args s v u, (limb_1_1.after args s (.returned v) u = true ∧ limb_1_2.after args s (.returned v) u = true ∧ True) → FrameEnd s (.returned v) u (Jvm.fieldLocs frame_1_writes args s ++ Jvm.arrayLocs frame_1_arrays args s ++ Jvm.staticLocs frame_1_statics s) 16 192 → Post tb e args s (.returned v) u) :
    ArmFor flags0 classFile x code maxLocals ret World_1 tables_1 room_1 Calls_1 rest_1 Pre_1 Post := by
  intro l hfl _ _ p e ha hc hk s m args below hf hA hF happ hP
  obtain ⟨hcalls, hrest, hpre⟩ := hP
  obtain ⟨-, -, -, hnamed, -, -, -, hat⟩ := (Spec.applies_iff hf).mp happ
  obtain ⟨hg, hn⟩ := and_e (Cond.before_iff.mp (show (Jvm.Cond.and given_1 narrow_1).before args s = true from hpre))
  obtain ⟨h1, hg⟩ := and_e hg
  obtain ⟨w0, w1, w2, w3, rfl⟩ : ∃ w0 w1 w2 w3 : Value, args = #[w0, w1, w2, w3] := by
    have hs : args.size = 4 := by simpa [Cond.value, given_1] using h1
    obtain ⟨L⟩ := args
    match L, hs with
    | [w0, w1, w2, w3], _ => exact ⟨w0, w1, w2, w3, rfl⟩
  obtain ⟨hi0, hg⟩ := and_e hg
  obtain ⟨i0, ei0⟩ := isL_v hi0
  obtain rfl : w0 = (.long i0) := Option.some.inj ei0
  obtain ⟨hi1, hg⟩ := and_e hg
  obtain ⟨i1, ei1⟩ := isL_v hi1
  obtain rfl : w1 = (.long i1) := Option.some.inj ei1
  obtain ⟨hi2, hg⟩ := and_e hg
  obtain ⟨i2, ei2⟩ := isL_v hi2
  obtain rfl : w2 = (.long i2) := Option.some.inj ei2
  obtain ⟨i3, ei3⟩ := is_v hg
  obtain rfl : w3 = (.int i3) := Option.some.inj ei3
  have hw := fun d (hd : d ∈ tables_1) => atoms_spec (ws := Jvm.Cond.code x code maxLocals ret :: tables_1) hat d (List.mem_cons_of_mem _ hd)
  obtain ⟨n0, hn⟩ := and_e hn
  obtain ⟨a_GENERAL_DIGIT_WEIGHTS, v_GENERAL_DIGIT_WEIGHTS⟩ := arr_v n0
  have S_GENERAL_DIGIT_WEIGHTS := Sta.start v_GENERAL_DIGIT_WEIGHTS (Or.inr ⟨(hw _ (List.mem_of_getElem? (i := 18) rfl)), (hw _ (List.mem_of_getElem? (i := 21) rfl))⟩)
  obtain ⟨cl_GENERAL_DIGIT_WEIGHTS, A_GENERAL_DIGIT_WEIGHTS⟩ := Arr.start v_GENERAL_DIGIT_WEIGHTS n0
  obtain ⟨n1, hn⟩ := and_e hn
  have Z_GENERAL_DIGIT_WEIGHTS : cl_GENERAL_DIGIT_WEIGHTS.slots.size = 44 := own_len v_GENERAL_DIGIT_WEIGHTS A_GENERAL_DIGIT_WEIGHTS n1
  obtain ⟨n2, hn⟩ := and_e hn
  have V_GENERAL_DIGIT_WEIGHTS_0 := own_elemI v_GENERAL_DIGIT_WEIGHTS A_GENERAL_DIGIT_WEIGHTS n2
  obtain ⟨n3, hn⟩ := and_e hn
  have V_GENERAL_DIGIT_WEIGHTS_1 := own_elemI v_GENERAL_DIGIT_WEIGHTS A_GENERAL_DIGIT_WEIGHTS n3
  obtain ⟨n4, hn⟩ := and_e hn
  have V_GENERAL_DIGIT_WEIGHTS_2 := own_elemI v_GENERAL_DIGIT_WEIGHTS A_GENERAL_DIGIT_WEIGHTS n4
  obtain ⟨n5, hn⟩ := and_e hn
  have V_GENERAL_DIGIT_WEIGHTS_3 := own_elemI v_GENERAL_DIGIT_WEIGHTS A_GENERAL_DIGIT_WEIGHTS n5
  obtain ⟨n6, hn⟩ := and_e hn
  have V_GENERAL_DIGIT_WEIGHTS_4 := own_elemI v_GENERAL_DIGIT_WEIGHTS A_GENERAL_DIGIT_WEIGHTS n6
  obtain ⟨n7, hn⟩ := and_e hn
  have V_GENERAL_DIGIT_WEIGHTS_5 := own_elemI v_GENERAL_DIGIT_WEIGHTS A_GENERAL_DIGIT_WEIGHTS n7
  obtain ⟨n8, hn⟩ := and_e hn
  have V_GENERAL_DIGIT_WEIGHTS_6 := own_elemI v_GENERAL_DIGIT_WEIGHTS A_GENERAL_DIGIT_WEIGHTS n8
  obtain ⟨n9, hn⟩ := and_e hn
  have V_GENERAL_DIGIT_WEIGHTS_7 := own_elemI v_GENERAL_DIGIT_WEIGHTS A_GENERAL_DIGIT_WEIGHTS n9
  obtain ⟨n10, hn⟩ := and_e hn
  have V_GENERAL_DIGIT_WEIGHTS_8 := own_elemI v_GENERAL_DIGIT_WEIGHTS A_GENERAL_DIGIT_WEIGHTS n10
  obtain ⟨n11, hn⟩ := and_e hn
  have V_GENERAL_DIGIT_WEIGHTS_9 := own_elemI v_GENERAL_DIGIT_WEIGHTS A_GENERAL_DIGIT_WEIGHTS n11
  obtain ⟨n12, hn⟩ := and_e hn
  have V_GENERAL_DIGIT_WEIGHTS_10 := own_elemI v_GENERAL_DIGIT_WEIGHTS A_GENERAL_DIGIT_WEIGHTS n12
  obtain ⟨n13, hn⟩ := and_e hn
  have V_GENERAL_DIGIT_WEIGHTS_11 := own_elemI v_GENERAL_DIGIT_WEIGHTS A_GENERAL_DIGIT_WEIGHTS n13
  obtain ⟨n14, hn⟩ := and_e hn
  have V_GENERAL_DIGIT_WEIGHTS_12 := own_elemI v_GENERAL_DIGIT_WEIGHTS A_GENERAL_DIGIT_WEIGHTS n14
  obtain ⟨n15, hn⟩ := and_e hn
  have V_GENERAL_DIGIT_WEIGHTS_13 := own_elemI v_GENERAL_DIGIT_WEIGHTS A_GENERAL_DIGIT_WEIGHTS n15
  obtain ⟨n16, hn⟩ := and_e hn
  have V_GENERAL_DIGIT_WEIGHTS_14 := own_elemI v_GENERAL_DIGIT_WEIGHTS A_GENERAL_DIGIT_WEIGHTS n16
  obtain ⟨n17, hn⟩ := and_e hn
  have V_GENERAL_DIGIT_WEIGHTS_15 := own_elemI v_GENERAL_DIGIT_WEIGHTS A_GENERAL_DIGIT_WEIGHTS n17
  obtain ⟨n18, hn⟩ := and_e hn
  have V_GENERAL_DIGIT_WEIGHTS_16 := own_elemI v_GENERAL_DIGIT_WEIGHTS A_GENERAL_DIGIT_WEIGHTS n18
  obtain ⟨n19, hn⟩ := and_e hn
  have V_GENERAL_DIGIT_WEIGHTS_17 := own_elemI v_GENERAL_DIGIT_WEIGHTS A_GENERAL_DIGIT_WEIGHTS n19
  obtain ⟨n20, hn⟩ := and_e hn
  have V_GENERAL_DIGIT_WEIGHTS_18 := own_elemI v_GENERAL_DIGIT_WEIGHTS A_GENERAL_DIGIT_WEIGHTS n20
  obtain ⟨n21, hn⟩ := and_e hn
  have V_GENERAL_DIGIT_WEIGHTS_19 := own_elemI v_GENERAL_DIGIT_WEIGHTS A_GENERAL_DIGIT_WEIGHTS n21
  obtain ⟨n22, hn⟩ := and_e hn
  have V_GENERAL_DIGIT_WEIGHTS_20 := own_elemI v_GENERAL_DIGIT_WEIGHTS A_GENERAL_DIGIT_WEIGHTS n22
  obtain ⟨n23, hn⟩ := and_e hn
  have V_GENERAL_DIGIT_WEIGHTS_21 := own_elemI v_GENERAL_DIGIT_WEIGHTS A_GENERAL_DIGIT_WEIGHTS n23
  obtain ⟨n24, hn⟩ := and_e hn
  have V_GENERAL_DIGIT_WEIGHTS_22 := own_elemI v_GENERAL_DIGIT_WEIGHTS A_GENERAL_DIGIT_WEIGHTS n24
  obtain ⟨n25, hn⟩ := and_e hn
  have V_GENERAL_DIGIT_WEIGHTS_23 := own_elemI v_GENERAL_DIGIT_WEIGHTS A_GENERAL_DIGIT_WEIGHTS n25
  obtain ⟨n26, hn⟩ := and_e hn
  have V_GENERAL_DIGIT_WEIGHTS_24 := own_elemI v_GENERAL_DIGIT_WEIGHTS A_GENERAL_DIGIT_WEIGHTS n26
  obtain ⟨n27, hn⟩ := and_e hn
  have V_GENERAL_DIGIT_WEIGHTS_25 := own_elemI v_GENERAL_DIGIT_WEIGHTS A_GENERAL_DIGIT_WEIGHTS n27
  obtain ⟨n28, hn⟩ := and_e hn
  have V_GENERAL_DIGIT_WEIGHTS_26 := own_elemI v_GENERAL_DIGIT_WEIGHTS A_GENERAL_DIGIT_WEIGHTS n28
  obtain ⟨n29, hn⟩ := and_e hn
  have V_GENERAL_DIGIT_WEIGHTS_27 := own_elemI v_GENERAL_DIGIT_WEIGHTS A_GENERAL_DIGIT_WEIGHTS n29
  obtain ⟨n30, hn⟩ := and_e hn
  have V_GENERAL_DIGIT_WEIGHTS_28 := own_elemI v_GENERAL_DIGIT_WEIGHTS A_GENERAL_DIGIT_WEIGHTS n30
  obtain ⟨n31, hn⟩ := and_e hn
  have V_GENERAL_DIGIT_WEIGHTS_29 := own_elemI v_GENERAL_DIGIT_WEIGHTS A_GENERAL_DIGIT_WEIGHTS n31
  obtain ⟨n32, hn⟩ := and_e hn
  have V_GENERAL_DIGIT_WEIGHTS_30 := own_elemI v_GENERAL_DIGIT_WEIGHTS A_GENERAL_DIGIT_WEIGHTS n32
  obtain ⟨n33, hn⟩ := and_e hn
  have V_GENERAL_DIGIT_WEIGHTS_31 := own_elemI v_GENERAL_DIGIT_WEIGHTS A_GENERAL_DIGIT_WEIGHTS n33
  obtain ⟨n34, hn⟩ := and_e hn
  have V_GENERAL_DIGIT_WEIGHTS_32 := own_elemI v_GENERAL_DIGIT_WEIGHTS A_GENERAL_DIGIT_WEIGHTS n34
  obtain ⟨n35, hn⟩ := and_e hn
  have V_GENERAL_DIGIT_WEIGHTS_33 := own_elemI v_GENERAL_DIGIT_WEIGHTS A_GENERAL_DIGIT_WEIGHTS n35
  obtain ⟨n36, hn⟩ := and_e hn
  have V_GENERAL_DIGIT_WEIGHTS_34 := own_elemI v_GENERAL_DIGIT_WEIGHTS A_GENERAL_DIGIT_WEIGHTS n36
  obtain ⟨n37, hn⟩ := and_e hn
  have V_GENERAL_DIGIT_WEIGHTS_35 := own_elemI v_GENERAL_DIGIT_WEIGHTS A_GENERAL_DIGIT_WEIGHTS n37
  obtain ⟨n38, hn⟩ := and_e hn
  have V_GENERAL_DIGIT_WEIGHTS_36 := own_elemI v_GENERAL_DIGIT_WEIGHTS A_GENERAL_DIGIT_WEIGHTS n38
  obtain ⟨n39, hn⟩ := and_e hn
  have V_GENERAL_DIGIT_WEIGHTS_37 := own_elemI v_GENERAL_DIGIT_WEIGHTS A_GENERAL_DIGIT_WEIGHTS n39
  obtain ⟨n40, hn⟩ := and_e hn
  have V_GENERAL_DIGIT_WEIGHTS_38 := own_elemI v_GENERAL_DIGIT_WEIGHTS A_GENERAL_DIGIT_WEIGHTS n40
  obtain ⟨n41, hn⟩ := and_e hn
  have V_GENERAL_DIGIT_WEIGHTS_39 := own_elemI v_GENERAL_DIGIT_WEIGHTS A_GENERAL_DIGIT_WEIGHTS n41
  obtain ⟨n42, hn⟩ := and_e hn
  have V_GENERAL_DIGIT_WEIGHTS_40 := own_elemI v_GENERAL_DIGIT_WEIGHTS A_GENERAL_DIGIT_WEIGHTS n42
  obtain ⟨n43, hn⟩ := and_e hn
  have V_GENERAL_DIGIT_WEIGHTS_41 := own_elemI v_GENERAL_DIGIT_WEIGHTS A_GENERAL_DIGIT_WEIGHTS n43
  obtain ⟨n44, hn⟩ := and_e hn
  have V_GENERAL_DIGIT_WEIGHTS_42 := own_elemI v_GENERAL_DIGIT_WEIGHTS A_GENERAL_DIGIT_WEIGHTS n44
  have V_GENERAL_DIGIT_WEIGHTS_43 := own_elemI v_GENERAL_DIGIT_WEIGHTS A_GENERAL_DIGIT_WEIGHTS hn
  have B : own_B s s.heap a_GENERAL_DIGIT_WEIGHTS cl_GENERAL_DIGIT_WEIGHTS := ⟨S_GENERAL_DIGIT_WEIGHTS, A_GENERAL_DIGIT_WEIGHTS, Z_GENERAL_DIGIT_WEIGHTS, V_GENERAL_DIGIT_WEIGHTS_0, V_GENERAL_DIGIT_WEIGHTS_1, V_GENERAL_DIGIT_WEIGHTS_2, V_GENERAL_DIGIT_WEIGHTS_3, V_GENERAL_DIGIT_WEIGHTS_4, V_GENERAL_DIGIT_WEIGHTS_5, V_GENERAL_DIGIT_WEIGHTS_6, V_GENERAL_DIGIT_WEIGHTS_7, V_GENERAL_DIGIT_WEIGHTS_8, V_GENERAL_DIGIT_WEIGHTS_9, V_GENERAL_DIGIT_WEIGHTS_10, V_GENERAL_DIGIT_WEIGHTS_11, V_GENERAL_DIGIT_WEIGHTS_12, V_GENERAL_DIGIT_WEIGHTS_13, V_GENERAL_DIGIT_WEIGHTS_14, V_GENERAL_DIGIT_WEIGHTS_15, V_GENERAL_DIGIT_WEIGHTS_16, V_GENERAL_DIGIT_WEIGHTS_17, V_GENERAL_DIGIT_WEIGHTS_18, V_GENERAL_DIGIT_WEIGHTS_19, V_GENERAL_DIGIT_WEIGHTS_20, V_GENERAL_DIGIT_WEIGHTS_21, V_GENERAL_DIGIT_WEIGHTS_22, V_GENERAL_DIGIT_WEIGHTS_23, V_GENERAL_DIGIT_WEIGHTS_24, V_GENERAL_DIGIT_WEIGHTS_25, V_GENERAL_DIGIT_WEIGHTS_26, V_GENERAL_DIGIT_WEIGHTS_27, V_GENERAL_DIGIT_WEIGHTS_28, V_GENERAL_DIGIT_WEIGHTS_29, V_GENERAL_DIGIT_WEIGHTS_30, V_GENERAL_DIGIT_WEIGHTS_31, V_GENERAL_DIGIT_WEIGHTS_32, V_GENERAL_DIGIT_WEIGHTS_33, V_GENERAL_DIGIT_WEIGHTS_34, V_GENERAL_DIGIT_WEIGHTS_35, V_GENERAL_DIGIT_WEIGHTS_36, V_GENERAL_DIGIT_WEIGHTS_37, V_GENERAL_DIGIT_WEIGHTS_38, V_GENERAL_DIGIT_WEIGHTS_39, V_GENERAL_DIGIT_WEIGHTS_40, V_GENERAL_DIGIT_WEIGHTS_41, V_GENERAL_DIGIT_WEIGHTS_42, V_GENERAL_DIGIT_WEIGHTS_43⟩
  obtain ⟨n, o, h1, h2, h3, _, L, rfl, ⟨rfl, N⟩, hq⟩ := rm0 l s _ hw i0 i1 i2 i3 a_GENERAL_DIGIT_WEIGHTS cl_GENERAL_DIGIT_WEIGHTS s.heap s.heap.size (Nat.le_refl _) B tables_1 p e ha hc hk s m _ below hf ((Spec.applies_iff_loose hf).mp happ).1 ⟨rfl, State.Warmed39.refl s, rfl⟩ trivial
  refine ⟨n, _, h1, h2, h3, hpost _ _ _ _ _ _ ⟨Jvm.Cond.after_iff.mpr rfl, Jvm.Cond.after_iff.mpr (eq_i res_at (Term.int_eval (1)) rfl), trivial⟩ ⟨hq.1, hq.2.1, (hq.2.2.sift fun y hy => Or.inr (N y hy)).mono (by decide) (by decide)⟩⟩
theorem main_1_1 : Claimed_1_1 := comes_1 fun _ _ _ _ _ _ h hF => ⟨h.1, hF⟩
theorem main_1_2 : Claimed_1_2 := comes_1 fun _ _ _ _ _ _ h hF => ⟨h.2.1, hF⟩
end Jvm.Pilot.@@N@@
namespace Jvm.Pilot.@@N@@
open Jvm Jvm.ClassFile Sem Op Lib Jvm.Free Jvm.Stand Jvm.Pilot.@@N@@.Jvm.D
/-! MADE BY PROGRAM (witnessworld.py) out of the Statement's table words and the real class files: 11 classes; the members and pool entries that the words name. The judged class is class 1, her method 5. -/
namespace start1
open Jvm.ClassFile
def u (s : String) : CpInfo := .utf8 (stringToUtf16 s)
/-- a pool by its gaps: so many unusable entries, then the entry; so many at the end -/
def gap : Nat → List CpInfo → List CpInfo
  | 0, r => r
  | n + 1, r => .unusable :: gap n r
def poolList (es : List (Nat × CpInfo)) (last : Nat) : List CpInfo := es.foldr (fun e r => gap e.1 (e.2 :: r)) (gap last [])
def pool (es : List (Nat × CpInfo)) (last : Nat) : Array CpInfo := ⟨poolList es last⟩
def fileOf (pool : Array CpInfo) (this : Nat) (attrs : Array Attribute := #[]) (ms : Array MethodInfo := #[]) (fl : Nat := 33) (sup : Nat := 0) (ifs : Array Nat := #[]) (fds : Array FieldInfo := #[]) : ClassFile where
  minorVersion := 0
  majorVersion := 65
  constantPool := pool
  accessFlags := fl
  thisClass := this
  superClass := sup
  interfaces := ifs
  fields := fds
  methods := ms
  attributes := attrs
def plain (name : String) (sup : Option ClassId) : Class where
  name := name
  kind := .ordinary
  loader := none
  accessFlags := 33
  super := sup
  interfaces := #[]
  cf := none
  fields := #[]
  methods := #[]
  instanceTypes := #[]
  staticTypes := #[]
  resolved := #[]
  callSites := []
  init := .initialized
  statics := none
  mirror := none

def pool0 : Array CpInfo := pool [(5, u "<init>"), (0, u "()V"), (1, .class_ 10), (1, u "java/lang/Object")] 113

def k0m0 : Method := { name := "<init>", desc := "()V", sig := { parameters := [], returnType := none }, accessFlags := 1, code := none }
/-- java/lang/Object -/
def k0 : Class := { plain "java/lang/Object" none with
  accessFlags := 33
  interfaces := #[]
  cf := some (fileOf pool0 8 #[] #[{ accessFlags := 1, nameIndex := 5, descriptorIndex := 6, attributes := #[] }] 33 0 #[] #[])
  fields := #[]
  methods := #[k0m0]
  instanceTypes := #[]
  staticTypes := #[]
  resolved := Array.replicate 124 none
  statics := none }

def pool1 : Array CpInfo := pool [(2, .class_ 4), (1, u "java/lang/Object"), (0, u "<init>"), (0, u "()V"), (0, .long 15), (1, .long 10), (1, .methodref 12 13), (0, .class_ 14), (0, .nameAndType 15 16), (0, u "com/example/compensa/compensa/CheckDigitsGeneralDigitPinLaw"), (0, u "d"), (0, u "([CI)I"), (0, .methodref 12 18), (0, .nameAndType 19 16), (0, u "run7"), (0, .methodref 12 21), (0, .nameAndType 22 23), (0, u "dg"), (0, u "(JI)C"), (0, .methodref 12 25), (0, .nameAndType 26 16), (0, u "run8"), (0, .methodref 28 29), (0, .class_ 30), (0, .nameAndType 31 32), (0, u "com/example/compensa/compensa/CheckDigits"), (0, u "generalDigit"), (0, u "([C)I"), (2, u "law"), (0, u "(JJJI)Z")] 5

def k1m0 : Method := { name := "<init>", desc := "()V", sig := { parameters := [], returnType := none }, accessFlags := 2, code := none }
def k1c1 : Code := { maxStack := 5, maxLocals := 3, code := method_2_code, exceptionTable := #[], attributes := #[] }
def k1m1 : Method := { name := "dg", desc := "(JI)C", sig := { parameters := [.long, .int], returnType := some .char }, accessFlags := 10, code := some k1c1 }
def k1c2 : Code := { maxStack := 2, maxLocals := 2, code := method_3_code, exceptionTable := #[], attributes := #[] }
def k1m2 : Method := { name := "d", desc := "([CI)I", sig := { parameters := [(.array .char), .int], returnType := some .int }, accessFlags := 10, code := some k1c2 }
def k1c3 : Code := { maxStack := 5, maxLocals := 2, code := method_4_code, exceptionTable := #[], attributes := #[] }
def k1m3 : Method := { name := "run7", desc := "([CI)I", sig := { parameters := [(.array .char), .int], returnType := some .int }, accessFlags := 10, code := some k1c3 }
def k1c4 : Code := { maxStack := 5, maxLocals := 2, code := method_5_code, exceptionTable := #[], attributes := #[] }
def k1m4 : Method := { name := "run8", desc := "([CI)I", sig := { parameters := [(.array .char), .int], returnType := some .int }, accessFlags := 10, code := some k1c4 }
def k1c5 : Code := { maxStack := 5, maxLocals := 12, code := code, exceptionTable := #[], attributes := #[] }
def k1m5 : Method := { name := "law", desc := "(JJJI)Z", sig := { parameters := [.long, .long, .long, .int], returnType := some .boolean }, accessFlags := 9, code := some k1c5 }
/-- com/example/compensa/compensa/CheckDigitsGeneralDigitPinLaw -/
def k1 : Class := { plain "com/example/compensa/compensa/CheckDigitsGeneralDigitPinLaw" (some 0) with
  accessFlags := 49
  interfaces := #[]
  cf := some (fileOf pool1 12 #[] #[{ accessFlags := 2, nameIndex := 5, descriptorIndex := 6, attributes := #[] }, { accessFlags := 10, nameIndex := 22, descriptorIndex := 23, attributes := #[] }, { accessFlags := 10, nameIndex := 15, descriptorIndex := 16, attributes := #[] }, { accessFlags := 10, nameIndex := 19, descriptorIndex := 16, attributes := #[] }, { accessFlags := 10, nameIndex := 26, descriptorIndex := 16, attributes := #[] }, { accessFlags := 9, nameIndex := 35, descriptorIndex := 36, attributes := #[] }] 49 2 #[] #[])
  fields := #[]
  methods := #[k1m0, k1m1, k1m2, k1m3, k1m4, k1m5]
  instanceTypes := #[]
  staticTypes := #[]
  resolved := Array.replicate 42 none
  statics := none }

def pool2 : Array CpInfo := pool [(2, .class_ 4), (1, u "java/lang/Object"), (0, u "<init>"), (0, u "()V"), (1, .class_ 10), (1, u "com/example/compensa/compensa/CheckDigits"), (0, u "DOUBLED_DIGIT_SUMS"), (0, u "[I"), (16, .fieldref 8 30), (0, .nameAndType 31 12), (0, u "GENERAL_DIGIT_WEIGHTS"), (24, u "TOP_WEIGHT"), (0, u "I"), (8, u "generalDigit"), (0, u "([C)I")] 10

def k2m0 : Method := { name := "<init>", desc := "()V", sig := { parameters := [], returnType := none }, accessFlags := 2, code := none }
def k2c1 : Code := { maxStack := 4, maxLocals := 3, code := prog_18_method_7_code, exceptionTable := #[], attributes := #[] }
def k2m1 : Method := { name := "generalDigit", desc := "([C)I", sig := { parameters := [(.array .char)], returnType := some .int }, accessFlags := 8, code := some k2c1 }
/-- com/example/compensa/compensa/CheckDigits -/
def k2 : Class := { plain "com/example/compensa/compensa/CheckDigits" (some 0) with
  accessFlags := 48
  interfaces := #[]
  cf := some (fileOf pool2 8 #[] #[{ accessFlags := 2, nameIndex := 5, descriptorIndex := 6, attributes := #[] }, { accessFlags := 8, nameIndex := 66, descriptorIndex := 67, attributes := #[] }] 48 2 #[] #[{ accessFlags := 24, nameIndex := 56, descriptorIndex := 57, attributes := #[] }, { accessFlags := 26, nameIndex := 11, descriptorIndex := 12, attributes := #[] }, { accessFlags := 26, nameIndex := 31, descriptorIndex := 12, attributes := #[] }])
  fields := #[{ name := "TOP_WEIGHT", type := .int, accessFlags := 24, slot := 0, constantValue := 0 }, { name := "DOUBLED_DIGIT_SUMS", type := (.array .int), accessFlags := 26, slot := 1, constantValue := 0 }, { name := "GENERAL_DIGIT_WEIGHTS", type := (.array .int), accessFlags := 26, slot := 2, constantValue := 0 }]
  methods := #[k2m0, k2m1]
  instanceTypes := #[]
  staticTypes := #[.int, (.array .int), (.array .int)]
  resolved := Array.replicate 78 none
  statics := some 0 }

def pool3 : Array CpInfo := pool [(1, u "java/lang/Cloneable"), (0, .class_ 1), (0, u "java/lang/Object"), (0, .class_ 3)] 3

/-- java/lang/Cloneable -/
def k3 : Class := { plain "java/lang/Cloneable" (some 0) with
  accessFlags := 1537
  interfaces := #[]
  cf := some (fileOf pool3 2 #[] #[] 1537 4 #[] #[])
  fields := #[]
  methods := #[]
  instanceTypes := #[]
  staticTypes := #[]
  resolved := Array.replicate 8 none
  statics := none }

def pool4 : Array CpInfo := pool [(1, u "java/io/Serializable"), (0, .class_ 1), (0, u "java/lang/Object"), (0, .class_ 3)] 3

/-- java/io/Serializable -/
def k4 : Class := { plain "java/io/Serializable" (some 0) with
  accessFlags := 1537
  interfaces := #[]
  cf := some (fileOf pool4 2 #[] #[] 1537 4 #[] #[])
  fields := #[]
  methods := #[]
  instanceTypes := #[]
  staticTypes := #[]
  resolved := Array.replicate 8 none
  statics := none }

/-- the primitive byte -/
def k5 : Class := { plain "byte" none with kind := .primitive 'B', accessFlags := 0x411 }
/-- [B -/
def k6 : Class := { plain "[B" (some 0) with kind := .array 5 .byte, interfaces := #[3, 4], accessFlags := 1041 }

/-- the primitive char -/
def k7 : Class := { plain "char" none with kind := .primitive 'C', accessFlags := 0x411 }
/-- [C -/
def k8 : Class := { plain "[C" (some 0) with kind := .array 7 .char, interfaces := #[3, 4], accessFlags := 1041 }

/-- the primitive int -/
def k9 : Class := { plain "int" none with kind := .primitive 'I', accessFlags := 0x411 }
/-- [I -/
def k10 : Class := { plain "[I" (some 0) with kind := .array 9 .int, interfaces := #[3, 4], accessFlags := 1041 }

def heap : Heap := #[{ cls := 2, slots := #[.int 0, .null, .ref 1], vm := .statics 2 },
  { cls := 10, slots := #[.int 4, .int 3, .int 2, .int 9, .int 0, .int 8, .int 7, .int 6, .int 5, .int 4, .int 3, .int 2, .int 9, .int 8, .int 7, .int 6, .int 5, .int 4, .int 3, .int 2, .int 9, .int 8, .int 7, .int 6, .int 5, .int 4, .int 3, .int 2, .int 9, .int 8, .int 7, .int 6, .int 5, .int 4, .int 3, .int 2, .int 9, .int 8, .int 7, .int 6, .int 5, .int 4, .int 3, .int 2], vm := .none }]
def classes : Array Class := #[k0, k1, k2, k3, k4, k5, k6, k7, k8, k9, k10]
def interned : List (Array UInt16 × Addr) := []
def slotsUsed : Nat := 47
def theMethod : MethodId := ⟨1, 5⟩
def args0 : Array Value := #[.long 5, .long 1, .long 2, .int 3]
def aboutOver (below : List Frame) : State where
  vm := { classes := classes, interned := interned.toArray }
  heap := heap
  slotsUsed := slotsUsed
  threads := #[{ frames := .invoking theMethod args0 :: below }]
def below0 : List Frame := [.native { method := ⟨0, 0⟩, args := #[] }]
def about1 : State := aboutOver below0
def p0 : Program := .bare "" "" ""
def e0 : Env := launch0.env 0 0 0
theorem w_frames : about1.frames = Frame.invoking theMethod args0 :: below0 := rfl
set_option maxRecDepth 65536 in
theorem w_args : argsFit about1.vm theMethod args0 = true := by decide +kernel
set_option maxRecDepth 65536 in
theorem w_heap : heapFits about1 = true := by decide +kernel
set_option maxRecDepth 65536 in
theorem w_runnable : about1.curStatus? = some .runnable := by decide +kernel
set_option maxRecDepth 65536 in
theorem w_alone : about1.alone = true := by decide +kernel
set_option maxRecDepth 65536 in
theorem w_named : about1.methodNamed? x = some theMethod := by decide +kernel
set_option maxRecDepth 65536 in
theorem w_hears : about1.hears theMethod below0 = true := by decide +kernel
set_option maxRecDepth 65536 in
theorem w_ripe : about1.ripe theMethod args0 below0 = true := by decide +kernel
theorem w_running : about1.status = .running := rfl
set_option maxRecDepth 65536 in
theorem w_room : about1.hasRoom e0.platform room_1 = true :=
  launch0.hasRoom_least _ room_1 (by decide +kernel) (by decide +kernel) (by decide +kernel) (by decide +kernel) (by decide +kernel) (by decide +kernel)
theorem allAtoms_all (ts : List Jvm.Cond) (a : Array Jvm.Value) (st : Jvm.State) : (allAtoms ts).before a st = ts.all (fun c => c.before a st) := by
  induction ts with
  | nil => rfl
  | cons c t ih =>
    show (Jvm.Cond.and c (allAtoms t)).before a st = _
    rw [Jvm.Cond.before_and, ih, List.all_cons]
def words1 : List Jvm.Cond := Jvm.Cond.code x code maxLocals ret :: tables_1
/-- a 'code' word, met by the world's own term for the bytes: nothing is compared byte by byte -/
theorem code_word {y : MethodName} {bytes : ByteArray} {mx : Nat} {rt : Option FieldType} {a : Array Value} {s : State} {m : MethodId} {meth : Method} {c : Code} (h1 : s.methodNamed? y = some m) (h2 : s.vm.method? m = some meth) (h3 : meth.code = some c) (h4 : c.code = bytes)
    (h5 : (c.maxLocals == mx && c.exceptionTable.isEmpty && decide (c.maxStack ≤ mostOperands) && decide (meth.sig.returnType = rt) && !meth.locks && decide (parseMethodDescriptor y.desc = some meth.sig)) = true) : (Jvm.Cond.code y bytes mx rt).before a s = true := by
  simp only [Bool.and_eq_true, beq_iff_eq, Bool.not_eq_true', decide_eq_true_eq] at h5
  obtain ⟨⟨⟨⟨⟨g1, g2⟩, g3⟩, g4⟩, g5⟩, g6⟩ := h5
  simp [Cond.before, Cond.holds, Cond.value, h1, h2, h3, h4, g1, g2, g3, g4, g5, g6]
def isCode : Jvm.Cond → Bool
  | .code _ _ _ _ => true
  | _ => false
theorem all_split {L : List Jvm.Cond} {P : Jvm.Cond → Bool} (h1 : L.all (fun c => isCode c || P c) = true) (h2 : ∀ c ∈ L.filter isCode, P c = true) : L.all P = true := by
  refine List.all_eq_true.mpr fun c hc => ?_
  have h := List.all_eq_true.mp h1 c hc
  rcases Bool.eq_false_or_eq_true (isCode c) with hi | hi
  · exact h2 c (List.mem_filter.mpr ⟨hc, hi⟩)
  · simpa [hi] using h
set_option maxRecDepth 65536 in
theorem w_c0 : (Jvm.Cond.code x code maxLocals ret).before args0 about1 = true := code_word (m := ⟨1, 5⟩) (meth := k1m5) (c := k1c5) (by decide +kernel) rfl rfl rfl (by decide +kernel)
set_option maxRecDepth 65536 in
theorem w_c1 : (Jvm.Cond.code ({ cls := "com/example/compensa/compensa/CheckDigitsGeneralDigitPinLaw", name := "dg", desc := "(JI)C" } : Jvm.MethodName) method_2_code (3 : Nat) (Option.some Jvm.ClassFile.FieldType.char)).before args0 about1 = true := code_word (m := ⟨1, 1⟩) (meth := k1m1) (c := k1c1) (by decide +kernel) rfl rfl rfl (by decide +kernel)
set_option maxRecDepth 65536 in
theorem w_c2 : (Jvm.Cond.code ({ cls := "com/example/compensa/compensa/CheckDigitsGeneralDigitPinLaw", name := "run8", desc := "([CI)I" } : Jvm.MethodName) method_5_code (2 : Nat) (Option.some Jvm.ClassFile.FieldType.int)).before args0 about1 = true := code_word (m := ⟨1, 4⟩) (meth := k1m4) (c := k1c4) (by decide +kernel) rfl rfl rfl (by decide +kernel)
set_option maxRecDepth 65536 in
theorem w_c3 : (Jvm.Cond.code ({ cls := "com/example/compensa/compensa/CheckDigitsGeneralDigitPinLaw", name := "run7", desc := "([CI)I" } : Jvm.MethodName) method_4_code (2 : Nat) (Option.some Jvm.ClassFile.FieldType.int)).before args0 about1 = true := code_word (m := ⟨1, 3⟩) (meth := k1m3) (c := k1c3) (by decide +kernel) rfl rfl rfl (by decide +kernel)
set_option maxRecDepth 65536 in
theorem w_c4 : (Jvm.Cond.code ({ cls := "com/example/compensa/compensa/CheckDigitsGeneralDigitPinLaw", name := "d", desc := "([CI)I" } : Jvm.MethodName) method_3_code (2 : Nat) (Option.some Jvm.ClassFile.FieldType.int)).before args0 about1 = true := code_word (m := ⟨1, 2⟩) (meth := k1m2) (c := k1c2) (by decide +kernel) rfl rfl rfl (by decide +kernel)
set_option maxRecDepth 65536 in
theorem w_c5 : (Jvm.Cond.code ({ cls := "com/example/compensa/compensa/CheckDigits", name := "generalDigit", desc := "([C)I" } : Jvm.MethodName) prog_18_method_7_code (3 : Nat) (Option.some Jvm.ClassFile.FieldType.int)).before args0 about1 = true := code_word (m := ⟨2, 1⟩) (meth := k2m1) (c := k2c1) (by decide +kernel) rfl rfl rfl (by decide +kernel)
def codes1 : List Jvm.Cond := [Jvm.Cond.code x code maxLocals ret, Jvm.Cond.code ({ cls := "com/example/compensa/compensa/CheckDigitsGeneralDigitPinLaw", name := "dg", desc := "(JI)C" } : Jvm.MethodName) method_2_code (3 : Nat) (Option.some Jvm.ClassFile.FieldType.char), Jvm.Cond.code ({ cls := "com/example/compensa/compensa/CheckDigitsGeneralDigitPinLaw", name := "run8", desc := "([CI)I" } : Jvm.MethodName) method_5_code (2 : Nat) (Option.some Jvm.ClassFile.FieldType.int), Jvm.Cond.code ({ cls := "com/example/compensa/compensa/CheckDigitsGeneralDigitPinLaw", name := "run7", desc := "([CI)I" } : Jvm.MethodName) method_4_code (2 : Nat) (Option.some Jvm.ClassFile.FieldType.int), Jvm.Cond.code ({ cls := "com/example/compensa/compensa/CheckDigitsGeneralDigitPinLaw", name := "d", desc := "([CI)I" } : Jvm.MethodName) method_3_code (2 : Nat) (Option.some Jvm.ClassFile.FieldType.int), Jvm.Cond.code ({ cls := "com/example/compensa/compensa/CheckDigits", name := "generalDigit", desc := "([C)I" } : Jvm.MethodName) prog_18_method_7_code (3 : Nat) (Option.some Jvm.ClassFile.FieldType.int)]
set_option maxRecDepth 65536 in
theorem codes_eq : words1.filter isCode = codes1 := rfl
theorem w_codes : ∀ c ∈ words1.filter isCode, c.before args0 about1 = true := by
  rw [codes_eq]
  intro c hc
  simp only [codes1, List.mem_cons, List.not_mem_nil, or_false] at hc
  rcases hc with rfl | rfl | rfl | rfl | rfl | rfl
  · exact w_c0
  · exact w_c1
  · exact w_c2
  · exact w_c3
  · exact w_c4
  · exact w_c5
set_option maxRecDepth 65536 in
theorem w_t1 : words1.all (fun c => isCode c || c.before args0 about1) = true := by decide +kernel
theorem w_tables : (allAtoms (Jvm.Cond.code x code maxLocals ret :: tables_1)).before args0 about1 = true := by
  rw [allAtoms_all]
  show words1.all (fun c => c.before args0 about1) = true
  refine all_split ?_ w_codes
  rw [w_t1]
set_option maxRecDepth 65536 in
theorem w_case : (Jvm.Cond.and given_1 narrow_1).before args0 about1 = true := by decide +kernel
theorem w_applies : (headSpec (Jvm.Cond.code x code maxLocals ret :: tables_1) room_1).applies x e0.platform about1 = true :=
  (Spec.applies_iff w_frames).mpr ⟨w_running, w_runnable, w_alone, w_named, w_hears, w_ripe, w_room, w_tables⟩
theorem atStart : AtStart classFile x code maxLocals ret World_1 tables_1 room_1 Calls_1 rest_1 Pre_1 launch0 p0 e0 about1 theMethod args0 below0 :=
  ⟨lists_1, trivial, launch0.admits_env _ _ _, launch0.least_env, fairChoices_fair.cas, fairChoices_fair.clock, w_frames, w_args, w_heap, w_applies, trivial, trivial, w_case⟩
end start1
theorem witness_1 : WitnessClaimed_1 := ⟨start1.p0, start1.e0, start1.about1, start1.theMethod, start1.args0, start1.below0, start1.atStart⟩
end Jvm.Pilot.@@N@@
