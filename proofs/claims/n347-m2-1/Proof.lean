import JvmDerived
import JvmDerived.Pilot.@@N@@Statement
import JvmDerived.Pilot.@@N@@Code
set_option linter.unusedVariables false
set_option linter.unusedSimpArgs false
@@BLOCK:NumsL.lean.txt@@
namespace Jvm.Pilot.@@N@@
open Jvm Jvm.ClassFile Sem Op Lib Jvm.Free Jvm.Stand Jvm.LawKit Jvm.RoadKit Bundle Jvm.Pilot.@@N@@.Jvm.D
section Own
variable {p : Program} {l : Launch} {e : Env} {R : Room} {s : State} {m : MethodId} {args : Array Value} {below : List Frame} {meth : Method} {c : Code} {T : State} {locs : List Loc} {cells slots : Nat} {Z : State} {a0 : Array Value} {h : Heap}
/-- from here the walk comes to an end that P holds of -/
def own_G (p : Program) (e : Env) (below : List Frame) (P : State → Outcome → Prop) (T : State) (g : JFrame) : Prop := ∃ t o, Steps p.tables e below (T.setTop g) t ∧ P t o
def own_P (below : List Frame) (s : State) (rm : Room) (Q : Option Value → Heap → List Loc → Prop) (t : State) (o : Outcome) : Prop := t.status = .running ∧ Ended t below o ∧ ∃ v L, o = .returned v ∧ Q v t.heap L ∧ FrameEnd s o t L rm.cells rm.slots
/-- a body's contract: over these arguments and this heap it returns, and Q holds of what it returns, the heap and the places written -/
def own_M (l : Launch) (Z : State) (y : MethodName) (code : ByteArray) (maxL : Nat) (ret : Option FieldType) (rm : Room) (as : Array Value) (h : Heap) (Q : Option Value → Heap → List Loc → Prop) : Prop :=
  ∀ ws : List Jvm.Cond, MetFree l y (head1 (Jvm.Cond.code y code maxL ret :: ws) rm) (fun a U => a = as ∧ Z.Warmed39 U.vm ∧ U.heap = h) (fun _ _ _ _ _ => True) (fun _ U o U' => ∃ v L, o = .returned v ∧ Q v U'.heap L ∧ FrameEnd U o U' L rm.cells rm.slots)
theorem own_go {P : State → Outcome → Prop} {T' : State} {g g' : JFrame} (st : ∀ t, Steps p.tables e below (T'.setTop g') t → Steps p.tables e below (T.setTop g) t) (k : own_G p e below P T' g') : own_G p e below P T g := by
  obtain ⟨t, o, h1, h2⟩ := k
  exact ⟨t, o, st t h1, h2⟩
theorem own_body {y : MethodName} {code : ByteArray} {maxL : Nat} {ret : Option FieldType} {rm : Room} {as : Array Value} {Q : Option Value → Heap → List Loc → Prop} (hn : plainFor y = true)
    (body : ∀ (p : Program) (e : Env) (s : State) (m : MethodId) (below : List Frame) (meth : Method) (c : Code) (T : State), p.tables.exec = Jvm.exec → c.code = code → c.maxLocals = maxL → meth.locks = false → s.vm.findClass y.cls = some m.cls → meth.sig.returnType = ret → meth.name = y.name → Z.Warmed39 s.vm → Stand p l e rm s m as below meth c T [] 0 0 → T.heap = h → own_G p e below (own_P below s rm Q) T (entryFrame m as maxL)) :
    own_M l Z y code maxL ret rm as h Q := by
  intro ws
  refine MetFree.of_bodySF hn hisR ?_
  intro p e s m args below meth c s₁ Bd hml0 hP hK
  obtain ⟨rfl, hZ, hh⟩ := hP
  obtain ⟨t, o, h1, h2, h3, h4⟩ := body p e s m below meth c s₁ Bd.exec Bd.bytes hml0 Bd.notSynchronized (findClass_of_methodNamed Bd.named) Bd.returns (name_of_methodNamed Bd.named Bd.method).1 hZ (Stand.of_body Bd) (by rw [← hh, Bd.state]; rfl)
  exact ⟨t, o, h1, h2, h3, h4⟩
theorem own_retI {rm : Room} {Q : Option Value → Heap → List Loc → Prop} (X : Stand p l e R s m args below meth c T locs cells slots) (hx : p.tables.exec = Jvm.exec) (hlk : meth.locks = false) (hret : meth.sig.returnType = some .int) {pc : Nat} {Ls : Array Slot} {z : Int32} {rest : List Value} (hd : decode c.code pc = .ok (.ireturn, 1)) (hc : cells ≤ rm.cells) (hs : slots ≤ rm.slots) (hQ : Q (some (.int z)) T.heap locs) :
    own_G p e below (own_P below s rm Q) T (mkF m pc Ls (.int z :: rest)) := by
  obtain ⟨fs, hr, hrun, hended, hW, hsame⟩ := X.leave (v := some (.int z)) (fun h => by rw [hret] at h; cases h) hlk
  exact ⟨_, _, retOut X hx hret rfl (Or.inl ⟨rfl, Or.inl rfl, _, rfl⟩) hd hr, hrun, hended, _, _, rfl, hQ, ⟨_, rfl⟩, hW, hsame.mono hc hs⟩
theorem own_retN {rm : Room} {Q : Option Value → Heap → List Loc → Prop} (X : Stand p l e R s m args below meth c T locs cells slots) (hx : p.tables.exec = Jvm.exec) (hlk : meth.locks = false) {t : FieldType} (hret : meth.sig.returnType = some t) (ht : t = .boolean ∨ t = .byte ∨ t = .char ∨ t = .short) {pc : Nat} {Ls : Array Slot} {z : Int32} {rest : List Value} (hd : decode c.code pc = .ok (.ireturn, 1)) (hc : cells ≤ rm.cells) (hs : slots ≤ rm.slots) (hQ : Q (some (.int (nar t z))) T.heap locs) :
    own_G p e below (own_P below s rm Q) T (mkF m pc Ls (.int z :: rest)) := by
  obtain ⟨fs, hr, hrun, hended, hW, hsame⟩ := X.leave (v := some (.int (nar t z))) (fun h => by rw [hret] at h; cases h) hlk
  exact ⟨_, _, retN X hx hret ht hd hr, hrun, hended, _, _, rfl, hQ, ⟨_, rfl⟩, hW, hsame.mono hc hs⟩
theorem own_narrow {t : FieldType} {w : Value} (hw : w.isRef = true) : narrow t w = w := by
  rcases ref_cases hw with rfl | ⟨a, rfl⟩ <;> cases t <;> rfl
theorem own_retA {rm : Room} {Q : Option Value → Heap → List Loc → Prop} (X : Stand p l e R s m args below meth c T locs cells slots) (hx : p.tables.exec = Jvm.exec) (hlk : meth.locks = false) {t : FieldType} (hret : meth.sig.returnType = some t) (ht : t.isReference = true) {pc : Nat} {Ls : Array Slot} {w : Value} {rest : List Value} (hw : w.isRef = true) (hd : decode c.code pc = .ok (.areturn, 1)) (hc : cells ≤ rm.cells) (hs : slots ≤ rm.slots) (hQ : Q (some w) T.heap locs) :
    own_G p e below (own_P below s rm Q) T (mkF m pc Ls (w :: rest)) := by
  obtain ⟨fs, hr, hrun, hended, hW, hsame⟩ := X.leave (v := some w) (fun h => by rw [hret] at h; cases h) hlk
  exact ⟨_, _, retOut X hx hret (own_narrow hw) (Or.inr (Or.inr (Or.inr (Or.inr ⟨rfl, ht, hw⟩)))) hd hr, hrun, hended, _, _, rfl, hQ, ⟨_, rfl⟩, hW, hsame.mono hc hs⟩
theorem own_ret0 {rm : Room} {Q : Option Value → Heap → List Loc → Prop} (X : Stand p l e R s m args below meth c T locs cells slots) (hx : p.tables.exec = Jvm.exec) (hlk : meth.locks = false) (hret : meth.sig.returnType = none) {pc : Nat} {Ls : Array Slot} (hd : decode c.code pc = .ok (.return_, 1)) (hc : cells ≤ rm.cells) (hs : slots ≤ rm.slots) (hQ : Q none T.heap locs) :
    own_G p e below (own_P below s rm Q) T (mkF m pc Ls []) := by
  obtain ⟨fs, hr, hrun, hended, hW, hsame⟩ := X.leave (v := none) (fun _ => rfl) hlk
  exact ⟨_, _, X.returnOut hx hret hd hr, hrun, hended, _, _, rfl, hQ, ⟨_, rfl⟩, hW, hsame.mono hc hs⟩
theorem own_callS (X : Stand p l e R s m args below meth c T locs cells slots) (hx : p.tables.exec = Jvm.exec) (hZ : Z.Warmed39 s.vm) {own : String} {index : Nat} {y : MethodName} {bytes : ByteArray} {maxL : Nat} {ret : Option FieldType} (hown : s.vm.findClass own = some m.cls)
    (w1 : (Jvm.Cond.methodLink own index y).before a0 Z = true) (w2 : (Jvm.Cond.static y).before a0 Z = true) (w3 : (Jvm.Cond.initialized y.cls).before a0 Z = true) (w4 : (Jvm.Cond.code y bytes maxL ret).before a0 Z = true) (hy : y.cls ≠ "java/lang/invoke/MethodHandle" ∧ y.cls ≠ "java/lang/invoke/VarHandle")
    {rm : Room} {argsL rest : List Value} {Q : Option Value → Heap → List Loc → Prop} (hM : own_M l Z y bytes maxL ret rm argsL.toArray h Q) (eT : T.heap = h) {g : JFrame} (hg : g.method = m) (hsize : g.locals.size = c.maxLocals) {ps : List FieldType} {r : Option FieldType} (hpd : parseMethodDescriptor y.desc = some ⟨ps, r⟩) (hpl : argsL.length = ps.length)
    (hstack : g.stack = argsL.reverse ++ rest) {W : Nat} (hW : 2 * g.monitorRoom + (rest.map fun v => v.category).sum ≤ W) (hdg : decode c.code g.pc = .ok (.invokestatic index, 3)) (hf : rm.frames + 1 ≤ R.frames) (hl : W + (maxL + 11) + rm.locals ≤ R.locals) (hc : cells + rm.cells ≤ R.cells) (hs : slots + rm.slots ≤ R.slots) :
    ∃ (T' : State) (L : List Loc) (v : Option Value), Stand p l e R s m args below meth c T' (locs ++ L) (cells + rm.cells) (slots + rm.slots) ∧ Q v T'.heap L ∧ ∀ t, Steps p.tables e below (T'.setTop { g with pc := g.pc + 3, stack := v.toList ++ rest }) t → Steps p.tables e below (T.setTop g) t := by
  obtain ⟨v, vm₁, ⟨T', L', k', n'⟩, -, X', ⟨L, hQ, e1, e2, e3⟩, st⟩ := Jvm.LawKit.callS X hx (y := y) hown (mvT hZ w1) (mvT hZ w2) (mvT hZ w3) (mvT hZ w4) hy (backOf (W := W) (hM []) hZ w4 w3 hf hl) hg hsize (argsL := argsL) (rest := rest) (lenOf hpd hpl) hstack hW hdg (fun _ _ => ⟨rfl, eT, hc, hs⟩)
  dsimp only [Pt.U, Pt.locs, Pt.cells, Pt.slots] at X' e1 e2 e3 st hQ
  subst e1 e2 e3
  exact ⟨T', L, v, X', hQ, st⟩
theorem own_callV (X : Stand p l e R s m args below meth c T locs cells slots) (hx : p.tables.exec = Jvm.exec) (hZ : Z.Warmed39 s.vm) {own C : String} {index : Nat} {y z : MethodName} {bytes : ByteArray} {maxL : Nat} {ret : Option FieldType} (hown : s.vm.findClass own = some m.cls)
    (w1 : (Jvm.Cond.methodLink own index y).before a0 Z = true) (w2 : (Jvm.Cond.declares y).before a0 Z = true) (w3 : (Jvm.Cond.selects y.cls y z).before a0 Z = true) (w3' : (Jvm.Cond.selects C y z).before a0 Z = true) (w4 : (Jvm.Cond.instanceMethod z).before a0 Z = true) (w5 : (Jvm.Cond.code z bytes maxL ret).before a0 Z = true) (w6 : (Jvm.Cond.initialized z.cls).before a0 Z = true) (hnf : NotFace s y)
    (hy : y.cls ≠ "java/lang/invoke/MethodHandle" ∧ y.cls ≠ "java/lang/invoke/VarHandle")
    {rm : Room} {a : Addr} {argsL rest : List Value} {Q : Option Value → Heap → List Loc → Prop} (hM : own_M l Z z bytes maxL ret rm (.ref a :: argsL).toArray h Q) (eT : T.heap = h) (E : Exa Z h a C) {g : JFrame} (hg : g.method = m) (hsize : g.locals.size = c.maxLocals) {ps : List FieldType} {r : Option FieldType} (hpd : parseMethodDescriptor y.desc = some ⟨ps, r⟩) (hpl : argsL.length = ps.length)
    (hstack : g.stack = argsL.reverse ++ .ref a :: rest) {W : Nat} (hW : 2 * g.monitorRoom + (rest.map fun v => v.category).sum ≤ W) (hdg : decode c.code g.pc = .ok (.invokevirtual index, 3)) (hf : rm.frames + 1 ≤ R.frames) (hl : W + (maxL + 11) + rm.locals ≤ R.locals) (hc : cells + rm.cells ≤ R.cells) (hs : slots + rm.slots ≤ R.slots) :
    ∃ (T' : State) (L : List Loc) (v : Option Value), Stand p l e R s m args below meth c T' (locs ++ L) (cells + rm.cells) (slots + rm.slots) ∧ Q v T'.heap L ∧ ∀ t, Steps p.tables e below (T'.setTop { g with pc := g.pc + 3, stack := v.toList ++ rest }) t → Steps p.tables e below (T.setTop g) t := by
  obtain ⟨cq, kq, qa, qb, qc⟩ := isOf hZ eT E
  obtain ⟨v, vm₁, ⟨T', L', k', n'⟩, -, X', ⟨L, hQ, e1, e2, e3⟩, st⟩ := X.virtualBack hx (y := y) (z := z) hown (mvT hZ w1) (mvT hZ w2) hnf (mvT hZ w3') (mvT hZ w4) hy (backOf (W := W) (hM []) hZ w5 w6 hf hl) qa qc hg hsize (Steps.refl _) (argsL := argsL) (rest := rest) (lenOf hpd hpl) hstack hW hdg (fun _ _ => ⟨rfl, eT, hc, hs⟩)
  dsimp only [Pt.U, Pt.locs, Pt.cells, Pt.slots] at X' e1 e2 e3 st hQ
  subst e1 e2 e3
  exact ⟨T', L, v, X', hQ, fun t k => st.trans k⟩
theorem own_callU (X : Stand p l e R s m args below meth c T locs cells slots) (hx : p.tables.exec = Jvm.exec) (hZ : Z.Warmed39 s.vm) {own C owner : String} {index : Nat} {y z : MethodName} {bytes : ByteArray} {maxL : Nat} {ret : Option FieldType} (hown : s.vm.findClass own = some m.cls)
    (w1 : (Jvm.Cond.methodLink own index y).before a0 Z = true) (w2 : (Jvm.Cond.sameMethod y.cls owner y.name y.desc).before a0 Z = true) (w2' : (Jvm.Cond.declares ⟨owner, y.name, y.desc⟩).before a0 Z = true) (w3 : (Jvm.Cond.selects C y z).before a0 Z = true) (w4 : (Jvm.Cond.instanceMethod z).before a0 Z = true) (w5 : (Jvm.Cond.code z bytes maxL ret).before a0 Z = true) (w6 : (Jvm.Cond.initialized z.cls).before a0 Z = true)
    (hy : owner ≠ "java/lang/invoke/MethodHandle" ∧ owner ≠ "java/lang/invoke/VarHandle")
    {rm : Room} {a : Addr} {argsL rest : List Value} {Q : Option Value → Heap → List Loc → Prop} (hM : own_M l Z z bytes maxL ret rm (.ref a :: argsL).toArray h Q) (eT : T.heap = h) (E : Exa Z h a C) {g : JFrame} (hg : g.method = m) (hsize : g.locals.size = c.maxLocals) {ps : List FieldType} {r : Option FieldType} (hpd : parseMethodDescriptor y.desc = some ⟨ps, r⟩) (hpl : argsL.length = ps.length)
    (hstack : g.stack = argsL.reverse ++ .ref a :: rest) {W : Nat} (hW : 2 * g.monitorRoom + (rest.map fun v => v.category).sum ≤ W) (hdg : decode c.code g.pc = .ok (.invokevirtual index, 3)) (hf : rm.frames + 1 ≤ R.frames) (hl : W + (maxL + 11) + rm.locals ≤ R.locals) (hc : cells + rm.cells ≤ R.cells) (hs : slots + rm.slots ≤ R.slots) :
    ∃ (T' : State) (L : List Loc) (v : Option Value), Stand p l e R s m args below meth c T' (locs ++ L) (cells + rm.cells) (slots + rm.slots) ∧ Q v T'.heap L ∧ ∀ t, Steps p.tables e below (T'.setTop { g with pc := g.pc + 3, stack := v.toList ++ rest }) t → Steps p.tables e below (T.setTop g) t := by
  obtain ⟨cq, kq, qa, qb, qc⟩ := isOf hZ eT E
  obtain ⟨v, vm₁, ⟨T', L', k', n'⟩, -, X', ⟨L, hQ, e1, e2, e3⟩, st⟩ := X.virtualBackUp hx (x := y) (y := z) hown (mvT hZ w1) (mvT hZ w2) (mvT hZ w2') hy (mvT hZ w3) (mvT hZ w4) (backOf (W := W) (hM []) hZ w5 w6 hf hl) qa qc hg hsize (Steps.refl _) (argsL := argsL) (rest := rest) (lenOf hpd hpl) hstack hW hdg (fun _ _ => ⟨rfl, eT, hc, hs⟩)
  dsimp only [Pt.U, Pt.locs, Pt.cells, Pt.slots] at X' e1 e2 e3 st hQ
  subst e1 e2 e3
  exact ⟨T', L, v, X', hQ, fun t k => st.trans k⟩
theorem own_neL {i K : Int32} {k : Int} (h : ¬ i = K) (hk : K.toInt = k) : k ≠ i.toInt := fun q => h (Int32.toInt_inj.mp (by rw [hk, q]))
abbrev own_cell (cA : ClassId) (vs : Array Value) : Cell := { cls := cA, slots := vs, vm := .none }
theorem own_in {cl : Cell} {j : Int32} {n : Nat} (hs : cl.slots.size = n) (hj : ¬ (j < 0 ∨ n ≤ j.toNatClampNeg)) : ¬ (j < 0 ∨ cl.slots.size ≤ j.toNatClampNeg) := by rw [hs]; exact hj
theorem own_cellAt {cl : Cell} {ty : FieldType} {a : Addr} (q : T.heap = h) (A : Arr Z h a cl ty) : T.heap[a]? = some cl := q ▸ A.1
theorem own_cat {v : Value} (q : v.isRef = true) : v.category = 1 := by rcases ref_cases q with rfl | ⟨a, rfl⟩ <;> rfl
theorem own_ext_refl (h : Heap) : Ext h h := ⟨Nat.le_refl _, fun _ _ q => q⟩
theorem own_ext_trans {h0 h h' : Heap} (E : Ext h0 h) (E' : Ext h h') : Ext h0 h' := ⟨Nat.le_trans E.1 E'.1, fun a c q => E'.2 a c (E.2 a c q)⟩
theorem own_ext_eq {h0 h h' : Heap} (E : Ext h0 h) (q : h' = h) : Ext h0 h' := q ▸ E
theorem own_acVF {v w : Value} (q : v = w) : Jvm.Free.XT.acmp .ne v w = false := by subst q; simp [Jvm.Free.XT.acmp]
theorem own_ext_wr {h0 h h' : Heap} {a : Addr} {sl : Nat} {v : Value} (E : Ext h0 h) (W : Wr h h' a sl v) (q : h0.size ≤ a) : Ext h0 h' := by
  refine ⟨by rw [W.size]; exact E.1, fun x cx hx => ?_⟩
  obtain ⟨c', e1, -, -, -, e5, -⟩ := wr_at W (E.2 x cx hx)
  rw [← e5 (Nat.ne_of_lt (Nat.lt_of_lt_of_le (Array.getElem?_eq_some_iff.mp hx).1 q))]
  exact e1
theorem own_fld {t : Term} {a : Addr} {C n d : String} {k : Int32} (ev : t.eval args Z none [] Z = some (.ref a)) (w : (Jvm.Cond.eq (.field t C n d) (.int k)).value args Z none Z [] = some true) : Fld Z Z.heap a C n d (.int k) := by
  obtain ⟨x, y, e1, e2, k1, k2⟩ := cmp_v (Or.inl w)
  obtain rfl : y = .int k := (Option.some.inj e2).symm
  obtain ⟨z, rfl⟩ := k2
  have hz := gotT (Jvm.Cond.eq_ints e1 e2) w
  rw [fld_at ev] at e1
  rw [hz] at e1
  exact Fld.start e1
theorem own_len {t : Term} {a : Addr} {cl : Cell} {ty : FieldType} {k : Int32} (ev : t.eval args Z none [] Z = some (.ref a)) (A : Arr Z Z.heap a cl ty) (w : (Jvm.Cond.eq (.length t) (.int k)).value args Z none Z [] = some true) : cl.slots.size = k.toInt.toNat := by
  obtain ⟨x, y, e1, e2, k1, k2⟩ := cmp_v (Or.inl w)
  obtain rfl : y = .int k := (Option.some.inj e2).symm
  obtain ⟨z, rfl⟩ := k2
  have hz := gotT (Jvm.Cond.eq_ints e1 e2) w
  have hA : Z.arrayAt? a = some cl := Arr.fin (Vm.Alike.refl _) A
  by_cases hl : cl.slots.size < 2 ^ 31
  · rw [len_f ev hA hl] at e1
    have h1 : cl.slots.size.toInt32 = z := Value.int.inj (Option.some.inj e1)
    rw [← hz, ← h1, len_toInt hl]
    rfl
  · simp [Term.eval, ev, hA, hl] at e1
theorem own_elemI {t : Term} {a : Addr} {cl : Cell} {ty : FieldType} {j k : Int32} (ev : t.eval args Z none [] Z = some (.ref a)) (A : Arr Z Z.heap a cl ty) (w : (Jvm.Cond.eq (.elem t (.int j)) (.int k)).value args Z none Z [] = some true) : cl.slots[j.toNatClampNeg]? = some (.int k) := by
  obtain ⟨x, y, e1, e2, k1, k2⟩ := cmp_v (Or.inl w)
  obtain rfl : y = .int k := (Option.some.inj e2).symm
  obtain ⟨z, rfl⟩ := k2
  have hz := gotT (Jvm.Cond.eq_ints e1 e2) w
  rw [← hz]
  exact (elem_in e1 ev (Term.int_eval j) A.1).2
theorem own_elemR {t u : Term} {a b : Addr} {cl : Cell} {ty : FieldType} {j : Int32} (ev : t.eval args Z none [] Z = some (.ref a)) (A : Arr Z Z.heap a cl ty) (ev' : u.eval args Z none [] Z = some (.ref b)) (w : (Jvm.Cond.eq (.elem t (.int j)) u).value args Z none Z [] = some true) : cl.slots[j.toNatClampNeg]? = some (.ref b) := by
  obtain ⟨x, y, e1, e2, k1, k2⟩ := cmp_v (Or.inl w)
  obtain rfl : y = .ref b := (Option.some.inj (ev'.symm.trans e2)).symm
  have hz := gotT (eq_R e1 e2 k2.2 rfl) w
  rw [← hz]
  exact (elem_in e1 ev (Term.int_eval j) A.1).2
theorem own_neV {a b : Int32} (h : a ≠ b) : (Value.int a) ≠ Value.int b := fun q => h (Value.int.inj q)
theorem own_acT {a b : Addr} (h : a = b) : Jvm.Free.XT.acmp .eq (.ref a) (.ref b) = true := by subst h; simp [Jvm.Free.XT.acmp]
theorem own_acF {a b : Addr} (h : a ≠ b) : Jvm.Free.XT.acmp .eq (.ref a) (.ref b) = false := by simp [Jvm.Free.XT.acmp, h]
theorem own_acnT {a b : Addr} (h : a ≠ b) : Jvm.Free.XT.acmp .ne (.ref a) (.ref b) = true := by simp [Jvm.Free.XT.acmp, h]
theorem own_acnF {a b : Addr} (h : a = b) : Jvm.Free.XT.acmp .ne (.ref a) (.ref b) = false := by subst h; simp [Jvm.Free.XT.acmp]
theorem own_mask (x : Int32) : 0 ≤ (x &&& 2147483647).toInt := by
  have := Jvm.Kit.i32_mask x 2147483647 (k := 31) (by decide) (by decide)
  omega
theorem own_rem (y n : Int32) (h0 : 0 ≤ y.toInt) (hn : 0 < n.toInt) : 0 ≤ (y % n).toInt ∧ (y % n).toInt < n.toInt := by
  rw [Int32.toInt_mod]
  exact ⟨Int.tmod_nonneg _ h0, by
    have := Int.tmod_lt_of_pos y.toInt hn
    exact this⟩
end Own
end Jvm.Pilot.@@N@@
namespace Jvm.Pilot.@@N@@
open Jvm Jvm.ClassFile Sem Op Lib Jvm.Free Jvm.Stand Jvm.LawKit Jvm.RoadKit Bundle Jvm.Pilot.@@N@@.Jvm.D
def own_B (Z : State) (h : Heap) (a_VALUES a_BIND a_UNBIND a_SEARCH a_MODIFY a_ADD a_DELETE a_MODIFY_DN a_COMPARE a_ABANDON a_EXTENDED : Addr) (cl_VALUES : Cell) : Prop := Sta Z h "com/example/canonry/canonry/Operation" "$VALUES" "[Lcom/example/canonry/canonry/Operation;" (.ref a_VALUES) ∧ Arr Z h a_VALUES cl_VALUES (.object "com/example/canonry/canonry/Operation") ∧ FitC Z cl_VALUES ∧ Exa Z h a_VALUES "[Lcom/example/canonry/canonry/Operation;" ∧ cl_VALUES.slots.size = 10 ∧ Sta Z h "com/example/canonry/canonry/Operation" "BIND" "Lcom/example/canonry/canonry/Operation;" (.ref a_BIND) ∧ Exa Z h a_BIND "com/example/canonry/canonry/Operation" ∧ cl_VALUES.slots[(0 : Int32).toNatClampNeg]? = some (.ref a_BIND) ∧ Sta Z h "com/example/canonry/canonry/Operation" "UNBIND" "Lcom/example/canonry/canonry/Operation;" (.ref a_UNBIND) ∧ Exa Z h a_UNBIND "com/example/canonry/canonry/Operation" ∧ cl_VALUES.slots[(1 : Int32).toNatClampNeg]? = some (.ref a_UNBIND) ∧ Sta Z h "com/example/canonry/canonry/Operation" "SEARCH" "Lcom/example/canonry/canonry/Operation;" (.ref a_SEARCH) ∧ Exa Z h a_SEARCH "com/example/canonry/canonry/Operation" ∧ cl_VALUES.slots[(2 : Int32).toNatClampNeg]? = some (.ref a_SEARCH) ∧ Sta Z h "com/example/canonry/canonry/Operation" "MODIFY" "Lcom/example/canonry/canonry/Operation;" (.ref a_MODIFY) ∧ Exa Z h a_MODIFY "com/example/canonry/canonry/Operation" ∧ cl_VALUES.slots[(3 : Int32).toNatClampNeg]? = some (.ref a_MODIFY) ∧ Sta Z h "com/example/canonry/canonry/Operation" "ADD" "Lcom/example/canonry/canonry/Operation;" (.ref a_ADD) ∧ Exa Z h a_ADD "com/example/canonry/canonry/Operation" ∧ cl_VALUES.slots[(4 : Int32).toNatClampNeg]? = some (.ref a_ADD) ∧ Sta Z h "com/example/canonry/canonry/Operation" "DELETE" "Lcom/example/canonry/canonry/Operation;" (.ref a_DELETE) ∧ Exa Z h a_DELETE "com/example/canonry/canonry/Operation" ∧ cl_VALUES.slots[(5 : Int32).toNatClampNeg]? = some (.ref a_DELETE) ∧ Sta Z h "com/example/canonry/canonry/Operation" "MODIFY_DN" "Lcom/example/canonry/canonry/Operation;" (.ref a_MODIFY_DN) ∧ Exa Z h a_MODIFY_DN "com/example/canonry/canonry/Operation" ∧ cl_VALUES.slots[(6 : Int32).toNatClampNeg]? = some (.ref a_MODIFY_DN) ∧ Sta Z h "com/example/canonry/canonry/Operation" "COMPARE" "Lcom/example/canonry/canonry/Operation;" (.ref a_COMPARE) ∧ Exa Z h a_COMPARE "com/example/canonry/canonry/Operation" ∧ cl_VALUES.slots[(7 : Int32).toNatClampNeg]? = some (.ref a_COMPARE) ∧ Sta Z h "com/example/canonry/canonry/Operation" "ABANDON" "Lcom/example/canonry/canonry/Operation;" (.ref a_ABANDON) ∧ Exa Z h a_ABANDON "com/example/canonry/canonry/Operation" ∧ cl_VALUES.slots[(8 : Int32).toNatClampNeg]? = some (.ref a_ABANDON) ∧ Sta Z h "com/example/canonry/canonry/Operation" "EXTENDED" "Lcom/example/canonry/canonry/Operation;" (.ref a_EXTENDED) ∧ Exa Z h a_EXTENDED "com/example/canonry/canonry/Operation" ∧ cl_VALUES.slots[(9 : Int32).toNatClampNeg]? = some (.ref a_EXTENDED) ∧ Fld Z h a_BIND "com/example/canonry/canonry/Operation" "requestTag" "I" (.int (96 : Int32)) ∧ Fld Z h a_UNBIND "com/example/canonry/canonry/Operation" "requestTag" "I" (.int (66 : Int32)) ∧ Fld Z h a_SEARCH "com/example/canonry/canonry/Operation" "requestTag" "I" (.int (99 : Int32)) ∧ Fld Z h a_MODIFY "com/example/canonry/canonry/Operation" "requestTag" "I" (.int (102 : Int32)) ∧ Fld Z h a_ADD "com/example/canonry/canonry/Operation" "requestTag" "I" (.int (104 : Int32)) ∧ Fld Z h a_DELETE "com/example/canonry/canonry/Operation" "requestTag" "I" (.int (74 : Int32)) ∧ Fld Z h a_MODIFY_DN "com/example/canonry/canonry/Operation" "requestTag" "I" (.int (108 : Int32)) ∧ Fld Z h a_COMPARE "com/example/canonry/canonry/Operation" "requestTag" "I" (.int (110 : Int32)) ∧ Fld Z h a_ABANDON "com/example/canonry/canonry/Operation" "requestTag" "I" (.int (80 : Int32)) ∧ Fld Z h a_EXTENDED "com/example/canonry/canonry/Operation" "requestTag" "I" (.int (119 : Int32))
theorem own_B_ext {Z : State} {h h' : Heap} {a_VALUES a_BIND a_UNBIND a_SEARCH a_MODIFY a_ADD a_DELETE a_MODIFY_DN a_COMPARE a_ABANDON a_EXTENDED : Addr} {cl_VALUES : Cell} (E : Ext h h') (B : own_B Z h a_VALUES a_BIND a_UNBIND a_SEARCH a_MODIFY a_ADD a_DELETE a_MODIFY_DN a_COMPARE a_ABANDON a_EXTENDED cl_VALUES) : own_B Z h' a_VALUES a_BIND a_UNBIND a_SEARCH a_MODIFY a_ADD a_DELETE a_MODIFY_DN a_COMPARE a_ABANDON a_EXTENDED cl_VALUES := by
  obtain ⟨S_VALUES, A_VALUES, G_VALUES, E_VALUES, Z_VALUES, S_BIND, E_BIND, V_VALUES_0, S_UNBIND, E_UNBIND, V_VALUES_1, S_SEARCH, E_SEARCH, V_VALUES_2, S_MODIFY, E_MODIFY, V_VALUES_3, S_ADD, E_ADD, V_VALUES_4, S_DELETE, E_DELETE, V_VALUES_5, S_MODIFY_DN, E_MODIFY_DN, V_VALUES_6, S_COMPARE, E_COMPARE, V_VALUES_7, S_ABANDON, E_ABANDON, V_VALUES_8, S_EXTENDED, E_EXTENDED, V_VALUES_9, F_BIND_requestTag, F_UNBIND_requestTag, F_SEARCH_requestTag, F_MODIFY_requestTag, F_ADD_requestTag, F_DELETE_requestTag, F_MODIFY_DN_requestTag, F_COMPARE_requestTag, F_ABANDON_requestTag, F_EXTENDED_requestTag⟩ := B
  exact ⟨S_VALUES.ext E, A_VALUES.ext E, G_VALUES, E_VALUES.ext E, Z_VALUES, S_BIND.ext E, E_BIND.ext E, V_VALUES_0, S_UNBIND.ext E, E_UNBIND.ext E, V_VALUES_1, S_SEARCH.ext E, E_SEARCH.ext E, V_VALUES_2, S_MODIFY.ext E, E_MODIFY.ext E, V_VALUES_3, S_ADD.ext E, E_ADD.ext E, V_VALUES_4, S_DELETE.ext E, E_DELETE.ext E, V_VALUES_5, S_MODIFY_DN.ext E, E_MODIFY_DN.ext E, V_VALUES_6, S_COMPARE.ext E, E_COMPARE.ext E, V_VALUES_7, S_ABANDON.ext E, E_ABANDON.ext E, V_VALUES_8, S_EXTENDED.ext E, E_EXTENDED.ext E, V_VALUES_9, F_BIND_requestTag.ext E, F_UNBIND_requestTag.ext E, F_SEARCH_requestTag.ext E, F_MODIFY_requestTag.ext E, F_ADD_requestTag.ext E, F_DELETE_requestTag.ext E, F_MODIFY_DN_requestTag.ext E, F_COMPARE_requestTag.ext E, F_ABANDON_requestTag.ext E, F_EXTENDED_requestTag.ext E⟩
theorem own_l10 (z : Int32) (h0 : 0 ≤ z.toInt) (h1 : z.toInt ≤ 9) : z = (0 : Int32) ∨ z = (1 : Int32) ∨ z = (2 : Int32) ∨ z = (3 : Int32) ∨ z = (4 : Int32) ∨ z = (5 : Int32) ∨ z = (6 : Int32) ∨ z = (7 : Int32) ∨ z = (8 : Int32) ∨ z = (9 : Int32) := by
  simp only [← Int32.toInt_inj]
  change z.toInt = 0 ∨ z.toInt = 1 ∨ z.toInt = 2 ∨ z.toInt = 3 ∨ z.toInt = 4 ∨ z.toInt = 5 ∨ z.toInt = 6 ∨ z.toInt = 7 ∨ z.toInt = 8 ∨ z.toInt = 9
  omega
theorem d2_0 : decode prog_6_method_1_code 0 = .ok (.getstatic 34, 3) := by decide +kernel
theorem d2_3 : decode prog_6_method_1_code 3 = .ok (.invokevirtual 38, 3) := by decide +kernel
theorem d2_6 : decode prog_6_method_1_code 6 = .ok (.checkcast 39, 3) := by decide +kernel
theorem d2_9 : decode prog_6_method_1_code 9 = .ok (.areturn, 1) := by decide +kernel
theorem pn_2 : plainFor (⟨"com/example/canonry/canonry/Operation", "values", "()[Lcom/example/canonry/canonry/Operation;"⟩ : MethodName) = true := by first | exact plainFor_of_name (by first | (simp [plainName, overriddenIn]; done) | decide +kernel) | decide +kernel
set_option maxRecDepth 65536 in
set_option maxHeartbeats 40000000 in
theorem c_values (l : Launch) (Z : State) (a0 : Array Value) (hw : ∀ d ∈ tables_1, d.before a0 Z = true) (a_VALUES a_BIND a_UNBIND a_SEARCH a_MODIFY a_ADD a_DELETE a_MODIFY_DN a_COMPARE a_ABANDON a_EXTENDED : Addr) (cl_VALUES : Cell) (h0 : Heap) (B : own_B Z h0 a_VALUES a_BIND a_UNBIND a_SEARCH a_MODIFY a_ADD a_DELETE a_MODIFY_DN a_COMPARE a_ABANDON a_EXTENDED cl_VALUES) :
    own_M l Z (⟨"com/example/canonry/canonry/Operation", "values", "()[Lcom/example/canonry/canonry/Operation;"⟩ : MethodName) prog_6_method_1_code 0 (some (.array (.object "com/example/canonry/canonry/Operation"))) ⟨1, 1, 10, 14⟩ #[] h0 (fun v h L => v = some (.ref h0.size) ∧ L = [] ∧ Ext h0 h ∧ Arr Z h h0.size (cloneOf cl_VALUES) (.object "com/example/canonry/canonry/Operation")) := by
  refine own_body pn_2 ?_
  intro p e s m below meth c T0 hx hby hml hlk hown hret hnm hZ X0 e0
  replace hown : s.vm.findClass "com/example/canonry/canonry/Operation" = some m.cls := hown
  replace hml : c.maxLocals = 0 := hml
  obtain ⟨S_VALUES, A_VALUES, G_VALUES, E_VALUES, Z_VALUES, S_BIND, E_BIND, V_VALUES_0, S_UNBIND, E_UNBIND, V_VALUES_1, S_SEARCH, E_SEARCH, V_VALUES_2, S_MODIFY, E_MODIFY, V_VALUES_3, S_ADD, E_ADD, V_VALUES_4, S_DELETE, E_DELETE, V_VALUES_5, S_MODIFY_DN, E_MODIFY_DN, V_VALUES_6, S_COMPARE, E_COMPARE, V_VALUES_7, S_ABANDON, E_ABANDON, V_VALUES_8, S_EXTENDED, E_EXTENDED, V_VALUES_9, F_BIND_requestTag, F_UNBIND_requestTag, F_SEARCH_requestTag, F_MODIFY_requestTag, F_ADD_requestTag, F_DELETE_requestTag, F_MODIFY_DN_requestTag, F_COMPARE_requestTag, F_ABANDON_requestTag, F_EXTENDED_requestTag⟩ := id B
  have ef : entryFrame m #[] 0 = (mkF m 0 #[] []) := by first | (simp [entryFrame, mkF, argsToLocals, Value.category]; done) | rfl
  rw [ef]
  obtain ⟨T1, X1, e1, st1⟩ := getS X0 hx hZ hown (host := "") (hw _ (List.mem_of_getElem? (i := 8) rfl)) Via.refl e0 S_VALUES (g := (mkF m 0 #[] [])) rfl (hb hby d2_0)
  refine own_go st1 ?_
  show own_G p e below _ T1 (mkF m 3 #[] [(.ref a_VALUES)])
  obtain ⟨T2, h2, X2, e2, E2, A2, EX2, st2⟩ := cloneA X1 hx hZ hown (ad := "[Lcom/example/canonry/canonry/Operation;") (hw _ (List.mem_of_getElem? (i := 10) rfl)) (hw _ (List.mem_of_getElem? (i := 11) rfl)) (hw _ (List.mem_of_getElem? (i := 15) rfl)) (hw _ (List.mem_of_getElem? (i := 13) rfl)) (hw _ (List.mem_of_getElem? (i := 14) rfl)) (hw _ (List.mem_of_getElem? (i := 16) rfl)) e1 A_VALUES E_VALUES G_VALUES (g := (mkF m 3 #[] [(.ref a_VALUES)])) rfl (by rw [hml]; rfl) rfl (hb hby d2_3) (by decide) (W := 0) (cap := 10) (by show 2 * 0 + _ ≤ _; exact Nat.le_of_eq rfl) (by decide) (Nat.le_of_eq Z_VALUES) (by decide) (by decide)
  refine own_go st2 ?_
  show own_G p e below _ T2 (mkF m 6 #[] [(.ref h0.size)])
  obtain ⟨T3, X3, e3, st3⟩ := castY X2 hx hZ hown (hw _ (List.mem_of_getElem? (i := 28) rfl)) e2 (Ins.self EX2) (g := (mkF m 6 #[] [(.ref h0.size)])) rfl rfl (hb hby d2_6)
  refine own_go st3 ?_
  show own_G p e below _ T3 (mkF m 9 #[] [(.ref h0.size)])
  exact own_retA X3 hx hlk hret rfl rfl (hb hby d2_9) (by decide) (by decide) ⟨rfl, rfl, own_ext_eq E2 e3, (by rw [e3]; exact A2)⟩
def own_of (a_VALUES a_BIND a_UNBIND a_SEARCH a_MODIFY a_ADD a_DELETE a_MODIFY_DN a_COMPARE a_ABANDON a_EXTENDED : Addr) (cl_VALUES : Cell) (k1 : Int32) : Value := (if (96 : Int32) = k1 then (.ref a_BIND) else (if (66 : Int32) = k1 then (.ref a_UNBIND) else (if (99 : Int32) = k1 then (.ref a_SEARCH) else (if (102 : Int32) = k1 then (.ref a_MODIFY) else (if (104 : Int32) = k1 then (.ref a_ADD) else (if (74 : Int32) = k1 then (.ref a_DELETE) else (if (108 : Int32) = k1 then (.ref a_MODIFY_DN) else (if (110 : Int32) = k1 then (.ref a_COMPARE) else (if (80 : Int32) = k1 then (.ref a_ABANDON) else (if (119 : Int32) = k1 then (.ref a_EXTENDED) else .null))))))))))
theorem d1_0 : decode prog_6_method_5_code 0 = .ok (.invokestatic 60, 3) := by decide +kernel
theorem d1_3 : decode prog_6_method_5_code 3 = .ok (.astore_n 1, 1) := by decide +kernel
theorem d1_4 : decode prog_6_method_5_code 4 = .ok (.aload_n 1, 1) := by decide +kernel
theorem d1_5 : decode prog_6_method_5_code 5 = .ok (.arraylength, 1) := by decide +kernel
theorem d1_6 : decode prog_6_method_5_code 6 = .ok (.istore_n 2, 1) := by decide +kernel
theorem d1_7 : decode prog_6_method_5_code 7 = .ok (.iconst 0, 1) := by decide +kernel
theorem d1_8 : decode prog_6_method_5_code 8 = .ok (.istore_n 3, 1) := by decide +kernel
theorem d1_9 : decode prog_6_method_5_code 9 = .ok (.iload_n 3, 1) := by decide +kernel
theorem d1_10 : decode prog_6_method_5_code 10 = .ok (.iload_n 2, 1) := by decide +kernel
theorem d1_11 : decode prog_6_method_5_code 11 = .ok (.if_icmp .ge 26, 3) := by decide +kernel
theorem d1_14 : decode prog_6_method_5_code 14 = .ok (.aload_n 1, 1) := by decide +kernel
theorem d1_15 : decode prog_6_method_5_code 15 = .ok (.iload_n 3, 1) := by decide +kernel
theorem d1_16 : decode prog_6_method_5_code 16 = .ok (.aaload, 1) := by decide +kernel
theorem d1_17 : decode prog_6_method_5_code 17 = .ok (.astore 4, 2) := by decide +kernel
theorem d1_19 : decode prog_6_method_5_code 19 = .ok (.aload 4, 2) := by decide +kernel
theorem d1_21 : decode prog_6_method_5_code 21 = .ok (.getfield 53, 3) := by decide +kernel
theorem d1_24 : decode prog_6_method_5_code 24 = .ok (.iload_n 0, 1) := by decide +kernel
theorem d1_25 : decode prog_6_method_5_code 25 = .ok (.if_icmp .ne 6, 3) := by decide +kernel
theorem d1_28 : decode prog_6_method_5_code 28 = .ok (.aload 4, 2) := by decide +kernel
theorem d1_30 : decode prog_6_method_5_code 30 = .ok (.areturn, 1) := by decide +kernel
theorem d1_31 : decode prog_6_method_5_code 31 = .ok (.iinc 3 1, 3) := by decide +kernel
theorem d1_34 : decode prog_6_method_5_code 34 = .ok (.goto (-25), 3) := by decide +kernel
theorem d1_37 : decode prog_6_method_5_code 37 = .ok (.aconst_null, 1) := by decide +kernel
theorem d1_38 : decode prog_6_method_5_code 38 = .ok (.areturn, 1) := by decide +kernel
theorem pn_1 : plainFor (⟨"com/example/canonry/canonry/Operation", "ofRequestTag", "(I)Lcom/example/canonry/canonry/Operation;"⟩ : MethodName) = true := by first | exact plainFor_of_name (by first | (simp [plainName, overriddenIn]; done) | decide +kernel) | decide +kernel
set_option maxRecDepth 65536 in
set_option maxHeartbeats 40000000 in
theorem c_of (l : Launch) (Z : State) (a0 : Array Value) (hw : ∀ d ∈ tables_1, d.before a0 Z = true) (a_VALUES a_BIND a_UNBIND a_SEARCH a_MODIFY a_ADD a_DELETE a_MODIFY_DN a_COMPARE a_ABANDON a_EXTENDED : Addr) (cl_VALUES : Cell) (k1 : Int32) (h0 : Heap) (B : own_B Z h0 a_VALUES a_BIND a_UNBIND a_SEARCH a_MODIFY a_ADD a_DELETE a_MODIFY_DN a_COMPARE a_ABANDON a_EXTENDED cl_VALUES) :
    own_M l Z (⟨"com/example/canonry/canonry/Operation", "ofRequestTag", "(I)Lcom/example/canonry/canonry/Operation;"⟩ : MethodName) prog_6_method_5_code 5 (some (.object "com/example/canonry/canonry/Operation")) ⟨2, 1, 10, 25⟩ #[.int k1] h0 (fun v h L => v = some ((own_of a_VALUES a_BIND a_UNBIND a_SEARCH a_MODIFY a_ADD a_DELETE a_MODIFY_DN a_COMPARE a_ABANDON a_EXTENDED cl_VALUES k1)) ∧ L = [] ∧ Ext h0 h) := by
  refine own_body pn_1 ?_
  intro p e s m below meth c T0 hx hby hml hlk hown hret hnm hZ X0 e0
  replace hown : s.vm.findClass "com/example/canonry/canonry/Operation" = some m.cls := hown
  replace hml : c.maxLocals = 5 := hml
  obtain ⟨S_VALUES, A_VALUES, G_VALUES, E_VALUES, Z_VALUES, S_BIND, E_BIND, V_VALUES_0, S_UNBIND, E_UNBIND, V_VALUES_1, S_SEARCH, E_SEARCH, V_VALUES_2, S_MODIFY, E_MODIFY, V_VALUES_3, S_ADD, E_ADD, V_VALUES_4, S_DELETE, E_DELETE, V_VALUES_5, S_MODIFY_DN, E_MODIFY_DN, V_VALUES_6, S_COMPARE, E_COMPARE, V_VALUES_7, S_ABANDON, E_ABANDON, V_VALUES_8, S_EXTENDED, E_EXTENDED, V_VALUES_9, F_BIND_requestTag, F_UNBIND_requestTag, F_SEARCH_requestTag, F_MODIFY_requestTag, F_ADD_requestTag, F_DELETE_requestTag, F_MODIFY_DN_requestTag, F_COMPARE_requestTag, F_ABANDON_requestTag, F_EXTENDED_requestTag⟩ := id B
  have ef : entryFrame m #[.int k1] 5 = (mkF m 0 #[.val (.int k1), .unset, .unset, .unset, .unset] []) := by first | (simp [entryFrame, mkF, argsToLocals, Value.category]; done) | rfl
  rw [ef]
  obtain ⟨T1, L1, v1, X1, ⟨rfl, rfl, q1, A1⟩, st1⟩ := own_callS X0 hx hZ (y := (⟨"com/example/canonry/canonry/Operation", "values", "()[Lcom/example/canonry/canonry/Operation;"⟩ : MethodName)) hown (hw _ (List.mem_of_getElem? (i := 5) rfl)) (hw _ (List.mem_of_getElem? (i := 6) rfl)) (hw _ (List.mem_of_getElem? (i := 3) rfl)) (hw _ (List.mem_of_getElem? (i := 7) rfl)) (by decide) (c_values l Z a0 hw a_VALUES a_BIND a_UNBIND a_SEARCH a_MODIFY a_ADD a_DELETE a_MODIFY_DN a_COMPARE a_ABANDON a_EXTENDED cl_VALUES h0 B) e0 (argsL := []) (rest := []) (g := (mkF m 0 #[.val (.int k1), .unset, .unset, .unset, .unset] [])) rfl (by rw [hml]; rfl) (ps := []) (r := (some (.array (.object "com/example/canonry/canonry/Operation")))) (by decide +kernel) rfl rfl (W := 0) (by show 2 * 0 + _ ≤ _; exact Nat.le_of_eq rfl) (hb hby d1_0) (by decide) (by decide) (by decide) (by decide)
  have Z1 : (cloneOf cl_VALUES).slots.size = 10 := Z_VALUES
  refine own_go st1 ?_
  show own_G p e below _ T1 (mkF m 3 #[.val (.int k1), .unset, .unset, .unset, .unset] [(.ref h0.size)])
  refine own_go (fun t k => XS.astoreN X1.here hx rfl (hb hby d1_3) rfl rfl (l' := #[.val (.int k1), .val (.ref h0.size), .unset, .unset, .unset]) rfl k) ?_
  show own_G p e below _ T1 (mkF m 4 #[.val (.int k1), .val (.ref h0.size), .unset, .unset, .unset] [])
  refine own_go (fun t k => XS.aloadN X1.here hx rfl (hb hby d1_4) rfl rfl k) ?_
  show own_G p e below _ T1 (mkF m 5 #[.val (.int k1), .val (.ref h0.size), .unset, .unset, .unset] [(.ref h0.size)])
  refine own_go (X1.arraylength hx (own_cellAt rfl A1) (State.isArrayOf_alike hZ.alike A1.2.1) (g := (mkF m 5 #[.val (.int k1), .val (.ref h0.size), .unset, .unset, .unset] [(.ref h0.size)])) rfl rfl (hb hby d1_5)) ?_
  rw [Z1]
  show own_G p e below _ T1 (mkF m 6 #[.val (.int k1), .val (.ref h0.size), .unset, .unset, .unset] [(.int (10 : Int32))])
  refine own_go (fun t k => XS.istoreN X1.here hx rfl (hb hby d1_6) rfl (l' := #[.val (.int k1), .val (.ref h0.size), .val (.int (10 : Int32)), .unset, .unset]) rfl k) ?_
  show own_G p e below _ T1 (mkF m 7 #[.val (.int k1), .val (.ref h0.size), .val (.int (10 : Int32)), .unset, .unset] [])
  refine own_go (fun t k => XS.iconst X1.here hx rfl (hb hby d1_7) k) ?_
  show own_G p e below _ T1 (mkF m 8 #[.val (.int k1), .val (.ref h0.size), .val (.int (10 : Int32)), .unset, .unset] [(.int (0 : Int32))])
  refine own_go (fun t k => XS.istoreN X1.here hx rfl (hb hby d1_8) rfl (l' := #[.val (.int k1), .val (.ref h0.size), .val (.int (10 : Int32)), .val (.int (0 : Int32)), .unset]) rfl k) ?_
  show own_G p e below _ T1 (mkF m 9 #[.val (.int k1), .val (.ref h0.size), .val (.int (10 : Int32)), .val (.int (0 : Int32)), .unset] [])
  refine own_go (fun t k => XS.iloadN X1.here hx rfl (hb hby d1_9) rfl k) ?_
  show own_G p e below _ T1 (mkF m 10 #[.val (.int k1), .val (.ref h0.size), .val (.int (10 : Int32)), .val (.int (0 : Int32)), .unset] [(.int (0 : Int32))])
  refine own_go (fun t k => XS.iloadN X1.here hx rfl (hb hby d1_10) rfl k) ?_
  show own_G p e below _ T1 (mkF m 11 #[.val (.int k1), .val (.ref h0.size), .val (.int (10 : Int32)), .val (.int (0 : Int32)), .unset] [(.int (10 : Int32)), (.int (0 : Int32))])
  refine own_go (fun t k => XS.icmpNo X1.here hx rfl (hb hby d1_11) rfl (by decide) k) ?_
  show own_G p e below _ T1 (mkF m 14 #[.val (.int k1), .val (.ref h0.size), .val (.int (10 : Int32)), .val (.int (0 : Int32)), .unset] [])
  refine own_go (fun t k => XS.aloadN X1.here hx rfl (hb hby d1_14) rfl rfl k) ?_
  show own_G p e below _ T1 (mkF m 15 #[.val (.int k1), .val (.ref h0.size), .val (.int (10 : Int32)), .val (.int (0 : Int32)), .unset] [(.ref h0.size)])
  refine own_go (fun t k => XS.iloadN X1.here hx rfl (hb hby d1_15) rfl k) ?_
  show own_G p e below _ T1 (mkF m 16 #[.val (.int k1), .val (.ref h0.size), .val (.int (10 : Int32)), .val (.int (0 : Int32)), .unset] [(.int (0 : Int32)), (.ref h0.size)])
  refine own_go (X1.aaload hx (j := (0 : Int32)) (v := (.ref a_BIND)) (own_cellAt rfl A1) (State.isArrayOf_alike hZ.alike A1.2.1) rfl A1.2.2 (own_in Z1 (by decide)) V_VALUES_0 (g := (mkF m 16 #[.val (.int k1), .val (.ref h0.size), .val (.int (10 : Int32)), .val (.int (0 : Int32)), .unset] [(.int (0 : Int32)), (.ref h0.size)])) rfl rfl (hb hby d1_16)) ?_
  show own_G p e below _ T1 (mkF m 17 #[.val (.int k1), .val (.ref h0.size), .val (.int (10 : Int32)), .val (.int (0 : Int32)), .unset] [(.ref a_BIND)])
  refine own_go (fun t k => XS.astore X1.here hx rfl (hb hby d1_17) rfl rfl (l' := #[.val (.int k1), .val (.ref h0.size), .val (.int (10 : Int32)), .val (.int (0 : Int32)), .val (.ref a_BIND)]) rfl k) ?_
  show own_G p e below _ T1 (mkF m 19 #[.val (.int k1), .val (.ref h0.size), .val (.int (10 : Int32)), .val (.int (0 : Int32)), .val (.ref a_BIND)] [])
  refine own_go (fun t k => XS.aload X1.here hx rfl (hb hby d1_19) rfl rfl k) ?_
  show own_G p e below _ T1 (mkF m 21 #[.val (.int k1), .val (.ref h0.size), .val (.int (10 : Int32)), .val (.int (0 : Int32)), .val (.ref a_BIND)] [(.ref a_BIND)])
  obtain ⟨T2, X2, e2, st2⟩ := getF X1 hx hZ hown (host := "") (Or.inl (hw _ (List.mem_of_getElem? (i := 30) rfl))) Via.refl rfl (F_BIND_requestTag.ext q1) (g := (mkF m 21 #[.val (.int k1), .val (.ref h0.size), .val (.int (10 : Int32)), .val (.int (0 : Int32)), .val (.ref a_BIND)] [(.ref a_BIND)])) rfl rfl (hb hby d1_21)
  refine own_go st2 ?_
  show own_G p e below _ T2 (mkF m 24 #[.val (.int k1), .val (.ref h0.size), .val (.int (10 : Int32)), .val (.int (0 : Int32)), .val (.ref a_BIND)] [(.int (96 : Int32))])
  refine own_go (fun t k => XS.iloadN X2.here hx rfl (hb hby d1_24) rfl k) ?_
  show own_G p e below _ T2 (mkF m 25 #[.val (.int k1), .val (.ref h0.size), .val (.int (10 : Int32)), .val (.int (0 : Int32)), .val (.ref a_BIND)] [(.int k1), (.int (96 : Int32))])
  by_cases hc3 : (96 : Int32) = k1
  ·
    refine own_go (fun t k => XS.icmpNo X2.here hx rfl (hb hby d1_25) rfl (Jvm.Free.XT.ii_ne_f hc3) k) ?_
    show own_G p e below _ T2 (mkF m 28 #[.val (.int k1), .val (.ref h0.size), .val (.int (10 : Int32)), .val (.int (0 : Int32)), .val (.ref a_BIND)] [])
    refine own_go (fun t k => XS.aload X2.here hx rfl (hb hby d1_28) rfl rfl k) ?_
    show own_G p e below _ T2 (mkF m 30 #[.val (.int k1), .val (.ref h0.size), .val (.int (10 : Int32)), .val (.int (0 : Int32)), .val (.ref a_BIND)] [(.ref a_BIND)])
    exact own_retA X2 hx hlk hret rfl rfl (hb hby d1_30) (by decide) (by decide) ⟨congrArg some (Eq.symm (show (own_of a_VALUES a_BIND a_UNBIND a_SEARCH a_MODIFY a_ADD a_DELETE a_MODIFY_DN a_COMPARE a_ABANDON a_EXTENDED cl_VALUES k1) = (.ref a_BIND) from (by unfold own_of; rw [if_pos hc3]))), rfl, (own_ext_eq q1 e2)⟩
  ·
    refine own_go (fun t k => XS.icmpYes X2.here hx rfl (pc0 := 25) (pc' := 31) rfl (hb hby d1_25) rfl (Jvm.Free.XT.ii_ne_t hc3) (by decide) (by decide) k) ?_
    show own_G p e below _ T2 (mkF m 31 #[.val (.int k1), .val (.ref h0.size), .val (.int (10 : Int32)), .val (.int (0 : Int32)), .val (.ref a_BIND)] [])
    refine own_go (fun t k => XS.iinc X2.here hx rfl (hb hby d1_31) rfl (l' := #[.val (.int k1), .val (.ref h0.size), .val (.int (10 : Int32)), .val (.int (1 : Int32)), .val (.ref a_BIND)]) rfl k) ?_
    show own_G p e below _ T2 (mkF m 34 #[.val (.int k1), .val (.ref h0.size), .val (.int (10 : Int32)), .val (.int (1 : Int32)), .val (.ref a_BIND)] [])
    refine own_go (fun t k => XS.goto X2.here hx rfl (pc0 := 34) (pc' := 9) rfl (hb hby d1_34) (by decide) (by decide) k) ?_
    show own_G p e below _ T2 (mkF m 9 #[.val (.int k1), .val (.ref h0.size), .val (.int (10 : Int32)), .val (.int (1 : Int32)), .val (.ref a_BIND)] [])
    refine own_go (fun t k => XS.iloadN X2.here hx rfl (hb hby d1_9) rfl k) ?_
    show own_G p e below _ T2 (mkF m 10 #[.val (.int k1), .val (.ref h0.size), .val (.int (10 : Int32)), .val (.int (1 : Int32)), .val (.ref a_BIND)] [(.int (1 : Int32))])
    refine own_go (fun t k => XS.iloadN X2.here hx rfl (hb hby d1_10) rfl k) ?_
    show own_G p e below _ T2 (mkF m 11 #[.val (.int k1), .val (.ref h0.size), .val (.int (10 : Int32)), .val (.int (1 : Int32)), .val (.ref a_BIND)] [(.int (10 : Int32)), (.int (1 : Int32))])
    refine own_go (fun t k => XS.icmpNo X2.here hx rfl (hb hby d1_11) rfl (by decide) k) ?_
    show own_G p e below _ T2 (mkF m 14 #[.val (.int k1), .val (.ref h0.size), .val (.int (10 : Int32)), .val (.int (1 : Int32)), .val (.ref a_BIND)] [])
    refine own_go (fun t k => XS.aloadN X2.here hx rfl (hb hby d1_14) rfl rfl k) ?_
    show own_G p e below _ T2 (mkF m 15 #[.val (.int k1), .val (.ref h0.size), .val (.int (10 : Int32)), .val (.int (1 : Int32)), .val (.ref a_BIND)] [(.ref h0.size)])
    refine own_go (fun t k => XS.iloadN X2.here hx rfl (hb hby d1_15) rfl k) ?_
    show own_G p e below _ T2 (mkF m 16 #[.val (.int k1), .val (.ref h0.size), .val (.int (10 : Int32)), .val (.int (1 : Int32)), .val (.ref a_BIND)] [(.int (1 : Int32)), (.ref h0.size)])
    refine own_go (X2.aaload hx (j := (1 : Int32)) (v := (.ref a_UNBIND)) (own_cellAt e2 A1) (State.isArrayOf_alike hZ.alike A1.2.1) rfl A1.2.2 (own_in Z1 (by decide)) V_VALUES_1 (g := (mkF m 16 #[.val (.int k1), .val (.ref h0.size), .val (.int (10 : Int32)), .val (.int (1 : Int32)), .val (.ref a_BIND)] [(.int (1 : Int32)), (.ref h0.size)])) rfl rfl (hb hby d1_16)) ?_
    show own_G p e below _ T2 (mkF m 17 #[.val (.int k1), .val (.ref h0.size), .val (.int (10 : Int32)), .val (.int (1 : Int32)), .val (.ref a_BIND)] [(.ref a_UNBIND)])
    refine own_go (fun t k => XS.astore X2.here hx rfl (hb hby d1_17) rfl rfl (l' := #[.val (.int k1), .val (.ref h0.size), .val (.int (10 : Int32)), .val (.int (1 : Int32)), .val (.ref a_UNBIND)]) rfl k) ?_
    show own_G p e below _ T2 (mkF m 19 #[.val (.int k1), .val (.ref h0.size), .val (.int (10 : Int32)), .val (.int (1 : Int32)), .val (.ref a_UNBIND)] [])
    refine own_go (fun t k => XS.aload X2.here hx rfl (hb hby d1_19) rfl rfl k) ?_
    show own_G p e below _ T2 (mkF m 21 #[.val (.int k1), .val (.ref h0.size), .val (.int (10 : Int32)), .val (.int (1 : Int32)), .val (.ref a_UNBIND)] [(.ref a_UNBIND)])
    obtain ⟨T4, X4, e4, st4⟩ := getF X2 hx hZ hown (host := "") (Or.inl (hw _ (List.mem_of_getElem? (i := 30) rfl))) Via.refl e2 (F_UNBIND_requestTag.ext q1) (g := (mkF m 21 #[.val (.int k1), .val (.ref h0.size), .val (.int (10 : Int32)), .val (.int (1 : Int32)), .val (.ref a_UNBIND)] [(.ref a_UNBIND)])) rfl rfl (hb hby d1_21)
    refine own_go st4 ?_
    show own_G p e below _ T4 (mkF m 24 #[.val (.int k1), .val (.ref h0.size), .val (.int (10 : Int32)), .val (.int (1 : Int32)), .val (.ref a_UNBIND)] [(.int (66 : Int32))])
    refine own_go (fun t k => XS.iloadN X4.here hx rfl (hb hby d1_24) rfl k) ?_
    show own_G p e below _ T4 (mkF m 25 #[.val (.int k1), .val (.ref h0.size), .val (.int (10 : Int32)), .val (.int (1 : Int32)), .val (.ref a_UNBIND)] [(.int k1), (.int (66 : Int32))])
    by_cases hc5 : (66 : Int32) = k1
    ·
      refine own_go (fun t k => XS.icmpNo X4.here hx rfl (hb hby d1_25) rfl (Jvm.Free.XT.ii_ne_f hc5) k) ?_
      show own_G p e below _ T4 (mkF m 28 #[.val (.int k1), .val (.ref h0.size), .val (.int (10 : Int32)), .val (.int (1 : Int32)), .val (.ref a_UNBIND)] [])
      refine own_go (fun t k => XS.aload X4.here hx rfl (hb hby d1_28) rfl rfl k) ?_
      show own_G p e below _ T4 (mkF m 30 #[.val (.int k1), .val (.ref h0.size), .val (.int (10 : Int32)), .val (.int (1 : Int32)), .val (.ref a_UNBIND)] [(.ref a_UNBIND)])
      exact own_retA X4 hx hlk hret rfl rfl (hb hby d1_30) (by decide) (by decide) ⟨congrArg some (Eq.symm (show (own_of a_VALUES a_BIND a_UNBIND a_SEARCH a_MODIFY a_ADD a_DELETE a_MODIFY_DN a_COMPARE a_ABANDON a_EXTENDED cl_VALUES k1) = (.ref a_UNBIND) from (by unfold own_of; rw [if_neg hc3, if_pos hc5]))), rfl, (own_ext_eq q1 e4)⟩
    ·
      refine own_go (fun t k => XS.icmpYes X4.here hx rfl (pc0 := 25) (pc' := 31) rfl (hb hby d1_25) rfl (Jvm.Free.XT.ii_ne_t hc5) (by decide) (by decide) k) ?_
      show own_G p e below _ T4 (mkF m 31 #[.val (.int k1), .val (.ref h0.size), .val (.int (10 : Int32)), .val (.int (1 : Int32)), .val (.ref a_UNBIND)] [])
      refine own_go (fun t k => XS.iinc X4.here hx rfl (hb hby d1_31) rfl (l' := #[.val (.int k1), .val (.ref h0.size), .val (.int (10 : Int32)), .val (.int (2 : Int32)), .val (.ref a_UNBIND)]) rfl k) ?_
      show own_G p e below _ T4 (mkF m 34 #[.val (.int k1), .val (.ref h0.size), .val (.int (10 : Int32)), .val (.int (2 : Int32)), .val (.ref a_UNBIND)] [])
      refine own_go (fun t k => XS.goto X4.here hx rfl (pc0 := 34) (pc' := 9) rfl (hb hby d1_34) (by decide) (by decide) k) ?_
      show own_G p e below _ T4 (mkF m 9 #[.val (.int k1), .val (.ref h0.size), .val (.int (10 : Int32)), .val (.int (2 : Int32)), .val (.ref a_UNBIND)] [])
      refine own_go (fun t k => XS.iloadN X4.here hx rfl (hb hby d1_9) rfl k) ?_
      show own_G p e below _ T4 (mkF m 10 #[.val (.int k1), .val (.ref h0.size), .val (.int (10 : Int32)), .val (.int (2 : Int32)), .val (.ref a_UNBIND)] [(.int (2 : Int32))])
      refine own_go (fun t k => XS.iloadN X4.here hx rfl (hb hby d1_10) rfl k) ?_
      show own_G p e below _ T4 (mkF m 11 #[.val (.int k1), .val (.ref h0.size), .val (.int (10 : Int32)), .val (.int (2 : Int32)), .val (.ref a_UNBIND)] [(.int (10 : Int32)), (.int (2 : Int32))])
      refine own_go (fun t k => XS.icmpNo X4.here hx rfl (hb hby d1_11) rfl (by decide) k) ?_
      show own_G p e below _ T4 (mkF m 14 #[.val (.int k1), .val (.ref h0.size), .val (.int (10 : Int32)), .val (.int (2 : Int32)), .val (.ref a_UNBIND)] [])
      refine own_go (fun t k => XS.aloadN X4.here hx rfl (hb hby d1_14) rfl rfl k) ?_
      show own_G p e below _ T4 (mkF m 15 #[.val (.int k1), .val (.ref h0.size), .val (.int (10 : Int32)), .val (.int (2 : Int32)), .val (.ref a_UNBIND)] [(.ref h0.size)])
      refine own_go (fun t k => XS.iloadN X4.here hx rfl (hb hby d1_15) rfl k) ?_
      show own_G p e below _ T4 (mkF m 16 #[.val (.int k1), .val (.ref h0.size), .val (.int (10 : Int32)), .val (.int (2 : Int32)), .val (.ref a_UNBIND)] [(.int (2 : Int32)), (.ref h0.size)])
      refine own_go (X4.aaload hx (j := (2 : Int32)) (v := (.ref a_SEARCH)) (own_cellAt e4 A1) (State.isArrayOf_alike hZ.alike A1.2.1) rfl A1.2.2 (own_in Z1 (by decide)) V_VALUES_2 (g := (mkF m 16 #[.val (.int k1), .val (.ref h0.size), .val (.int (10 : Int32)), .val (.int (2 : Int32)), .val (.ref a_UNBIND)] [(.int (2 : Int32)), (.ref h0.size)])) rfl rfl (hb hby d1_16)) ?_
      show own_G p e below _ T4 (mkF m 17 #[.val (.int k1), .val (.ref h0.size), .val (.int (10 : Int32)), .val (.int (2 : Int32)), .val (.ref a_UNBIND)] [(.ref a_SEARCH)])
      refine own_go (fun t k => XS.astore X4.here hx rfl (hb hby d1_17) rfl rfl (l' := #[.val (.int k1), .val (.ref h0.size), .val (.int (10 : Int32)), .val (.int (2 : Int32)), .val (.ref a_SEARCH)]) rfl k) ?_
      show own_G p e below _ T4 (mkF m 19 #[.val (.int k1), .val (.ref h0.size), .val (.int (10 : Int32)), .val (.int (2 : Int32)), .val (.ref a_SEARCH)] [])
      refine own_go (fun t k => XS.aload X4.here hx rfl (hb hby d1_19) rfl rfl k) ?_
      show own_G p e below _ T4 (mkF m 21 #[.val (.int k1), .val (.ref h0.size), .val (.int (10 : Int32)), .val (.int (2 : Int32)), .val (.ref a_SEARCH)] [(.ref a_SEARCH)])
      obtain ⟨T6, X6, e6, st6⟩ := getF X4 hx hZ hown (host := "") (Or.inl (hw _ (List.mem_of_getElem? (i := 30) rfl))) Via.refl e4 (F_SEARCH_requestTag.ext q1) (g := (mkF m 21 #[.val (.int k1), .val (.ref h0.size), .val (.int (10 : Int32)), .val (.int (2 : Int32)), .val (.ref a_SEARCH)] [(.ref a_SEARCH)])) rfl rfl (hb hby d1_21)
      refine own_go st6 ?_
      show own_G p e below _ T6 (mkF m 24 #[.val (.int k1), .val (.ref h0.size), .val (.int (10 : Int32)), .val (.int (2 : Int32)), .val (.ref a_SEARCH)] [(.int (99 : Int32))])
      refine own_go (fun t k => XS.iloadN X6.here hx rfl (hb hby d1_24) rfl k) ?_
      show own_G p e below _ T6 (mkF m 25 #[.val (.int k1), .val (.ref h0.size), .val (.int (10 : Int32)), .val (.int (2 : Int32)), .val (.ref a_SEARCH)] [(.int k1), (.int (99 : Int32))])
      by_cases hc7 : (99 : Int32) = k1
      ·
        refine own_go (fun t k => XS.icmpNo X6.here hx rfl (hb hby d1_25) rfl (Jvm.Free.XT.ii_ne_f hc7) k) ?_
        show own_G p e below _ T6 (mkF m 28 #[.val (.int k1), .val (.ref h0.size), .val (.int (10 : Int32)), .val (.int (2 : Int32)), .val (.ref a_SEARCH)] [])
        refine own_go (fun t k => XS.aload X6.here hx rfl (hb hby d1_28) rfl rfl k) ?_
        show own_G p e below _ T6 (mkF m 30 #[.val (.int k1), .val (.ref h0.size), .val (.int (10 : Int32)), .val (.int (2 : Int32)), .val (.ref a_SEARCH)] [(.ref a_SEARCH)])
        exact own_retA X6 hx hlk hret rfl rfl (hb hby d1_30) (by decide) (by decide) ⟨congrArg some (Eq.symm (show (own_of a_VALUES a_BIND a_UNBIND a_SEARCH a_MODIFY a_ADD a_DELETE a_MODIFY_DN a_COMPARE a_ABANDON a_EXTENDED cl_VALUES k1) = (.ref a_SEARCH) from (by unfold own_of; rw [if_neg hc3, if_neg hc5, if_pos hc7]))), rfl, (own_ext_eq q1 e6)⟩
      ·
        refine own_go (fun t k => XS.icmpYes X6.here hx rfl (pc0 := 25) (pc' := 31) rfl (hb hby d1_25) rfl (Jvm.Free.XT.ii_ne_t hc7) (by decide) (by decide) k) ?_
        show own_G p e below _ T6 (mkF m 31 #[.val (.int k1), .val (.ref h0.size), .val (.int (10 : Int32)), .val (.int (2 : Int32)), .val (.ref a_SEARCH)] [])
        refine own_go (fun t k => XS.iinc X6.here hx rfl (hb hby d1_31) rfl (l' := #[.val (.int k1), .val (.ref h0.size), .val (.int (10 : Int32)), .val (.int (3 : Int32)), .val (.ref a_SEARCH)]) rfl k) ?_
        show own_G p e below _ T6 (mkF m 34 #[.val (.int k1), .val (.ref h0.size), .val (.int (10 : Int32)), .val (.int (3 : Int32)), .val (.ref a_SEARCH)] [])
        refine own_go (fun t k => XS.goto X6.here hx rfl (pc0 := 34) (pc' := 9) rfl (hb hby d1_34) (by decide) (by decide) k) ?_
        show own_G p e below _ T6 (mkF m 9 #[.val (.int k1), .val (.ref h0.size), .val (.int (10 : Int32)), .val (.int (3 : Int32)), .val (.ref a_SEARCH)] [])
        refine own_go (fun t k => XS.iloadN X6.here hx rfl (hb hby d1_9) rfl k) ?_
        show own_G p e below _ T6 (mkF m 10 #[.val (.int k1), .val (.ref h0.size), .val (.int (10 : Int32)), .val (.int (3 : Int32)), .val (.ref a_SEARCH)] [(.int (3 : Int32))])
        refine own_go (fun t k => XS.iloadN X6.here hx rfl (hb hby d1_10) rfl k) ?_
        show own_G p e below _ T6 (mkF m 11 #[.val (.int k1), .val (.ref h0.size), .val (.int (10 : Int32)), .val (.int (3 : Int32)), .val (.ref a_SEARCH)] [(.int (10 : Int32)), (.int (3 : Int32))])
        refine own_go (fun t k => XS.icmpNo X6.here hx rfl (hb hby d1_11) rfl (by decide) k) ?_
        show own_G p e below _ T6 (mkF m 14 #[.val (.int k1), .val (.ref h0.size), .val (.int (10 : Int32)), .val (.int (3 : Int32)), .val (.ref a_SEARCH)] [])
        refine own_go (fun t k => XS.aloadN X6.here hx rfl (hb hby d1_14) rfl rfl k) ?_
        show own_G p e below _ T6 (mkF m 15 #[.val (.int k1), .val (.ref h0.size), .val (.int (10 : Int32)), .val (.int (3 : Int32)), .val (.ref a_SEARCH)] [(.ref h0.size)])
        refine own_go (fun t k => XS.iloadN X6.here hx rfl (hb hby d1_15) rfl k) ?_
        show own_G p e below _ T6 (mkF m 16 #[.val (.int k1), .val (.ref h0.size), .val (.int (10 : Int32)), .val (.int (3 : Int32)), .val (.ref a_SEARCH)] [(.int (3 : Int32)), (.ref h0.size)])
        refine own_go (X6.aaload hx (j := (3 : Int32)) (v := (.ref a_MODIFY)) (own_cellAt e6 A1) (State.isArrayOf_alike hZ.alike A1.2.1) rfl A1.2.2 (own_in Z1 (by decide)) V_VALUES_3 (g := (mkF m 16 #[.val (.int k1), .val (.ref h0.size), .val (.int (10 : Int32)), .val (.int (3 : Int32)), .val (.ref a_SEARCH)] [(.int (3 : Int32)), (.ref h0.size)])) rfl rfl (hb hby d1_16)) ?_
        show own_G p e below _ T6 (mkF m 17 #[.val (.int k1), .val (.ref h0.size), .val (.int (10 : Int32)), .val (.int (3 : Int32)), .val (.ref a_SEARCH)] [(.ref a_MODIFY)])
        refine own_go (fun t k => XS.astore X6.here hx rfl (hb hby d1_17) rfl rfl (l' := #[.val (.int k1), .val (.ref h0.size), .val (.int (10 : Int32)), .val (.int (3 : Int32)), .val (.ref a_MODIFY)]) rfl k) ?_
        show own_G p e below _ T6 (mkF m 19 #[.val (.int k1), .val (.ref h0.size), .val (.int (10 : Int32)), .val (.int (3 : Int32)), .val (.ref a_MODIFY)] [])
        refine own_go (fun t k => XS.aload X6.here hx rfl (hb hby d1_19) rfl rfl k) ?_
        show own_G p e below _ T6 (mkF m 21 #[.val (.int k1), .val (.ref h0.size), .val (.int (10 : Int32)), .val (.int (3 : Int32)), .val (.ref a_MODIFY)] [(.ref a_MODIFY)])
        obtain ⟨T8, X8, e8, st8⟩ := getF X6 hx hZ hown (host := "") (Or.inl (hw _ (List.mem_of_getElem? (i := 30) rfl))) Via.refl e6 (F_MODIFY_requestTag.ext q1) (g := (mkF m 21 #[.val (.int k1), .val (.ref h0.size), .val (.int (10 : Int32)), .val (.int (3 : Int32)), .val (.ref a_MODIFY)] [(.ref a_MODIFY)])) rfl rfl (hb hby d1_21)
        refine own_go st8 ?_
        show own_G p e below _ T8 (mkF m 24 #[.val (.int k1), .val (.ref h0.size), .val (.int (10 : Int32)), .val (.int (3 : Int32)), .val (.ref a_MODIFY)] [(.int (102 : Int32))])
        refine own_go (fun t k => XS.iloadN X8.here hx rfl (hb hby d1_24) rfl k) ?_
        show own_G p e below _ T8 (mkF m 25 #[.val (.int k1), .val (.ref h0.size), .val (.int (10 : Int32)), .val (.int (3 : Int32)), .val (.ref a_MODIFY)] [(.int k1), (.int (102 : Int32))])
        by_cases hc9 : (102 : Int32) = k1
        ·
          refine own_go (fun t k => XS.icmpNo X8.here hx rfl (hb hby d1_25) rfl (Jvm.Free.XT.ii_ne_f hc9) k) ?_
          show own_G p e below _ T8 (mkF m 28 #[.val (.int k1), .val (.ref h0.size), .val (.int (10 : Int32)), .val (.int (3 : Int32)), .val (.ref a_MODIFY)] [])
          refine own_go (fun t k => XS.aload X8.here hx rfl (hb hby d1_28) rfl rfl k) ?_
          show own_G p e below _ T8 (mkF m 30 #[.val (.int k1), .val (.ref h0.size), .val (.int (10 : Int32)), .val (.int (3 : Int32)), .val (.ref a_MODIFY)] [(.ref a_MODIFY)])
          exact own_retA X8 hx hlk hret rfl rfl (hb hby d1_30) (by decide) (by decide) ⟨congrArg some (Eq.symm (show (own_of a_VALUES a_BIND a_UNBIND a_SEARCH a_MODIFY a_ADD a_DELETE a_MODIFY_DN a_COMPARE a_ABANDON a_EXTENDED cl_VALUES k1) = (.ref a_MODIFY) from (by unfold own_of; rw [if_neg hc3, if_neg hc5, if_neg hc7, if_pos hc9]))), rfl, (own_ext_eq q1 e8)⟩
        ·
          refine own_go (fun t k => XS.icmpYes X8.here hx rfl (pc0 := 25) (pc' := 31) rfl (hb hby d1_25) rfl (Jvm.Free.XT.ii_ne_t hc9) (by decide) (by decide) k) ?_
          show own_G p e below _ T8 (mkF m 31 #[.val (.int k1), .val (.ref h0.size), .val (.int (10 : Int32)), .val (.int (3 : Int32)), .val (.ref a_MODIFY)] [])
          refine own_go (fun t k => XS.iinc X8.here hx rfl (hb hby d1_31) rfl (l' := #[.val (.int k1), .val (.ref h0.size), .val (.int (10 : Int32)), .val (.int (4 : Int32)), .val (.ref a_MODIFY)]) rfl k) ?_
          show own_G p e below _ T8 (mkF m 34 #[.val (.int k1), .val (.ref h0.size), .val (.int (10 : Int32)), .val (.int (4 : Int32)), .val (.ref a_MODIFY)] [])
          refine own_go (fun t k => XS.goto X8.here hx rfl (pc0 := 34) (pc' := 9) rfl (hb hby d1_34) (by decide) (by decide) k) ?_
          show own_G p e below _ T8 (mkF m 9 #[.val (.int k1), .val (.ref h0.size), .val (.int (10 : Int32)), .val (.int (4 : Int32)), .val (.ref a_MODIFY)] [])
          refine own_go (fun t k => XS.iloadN X8.here hx rfl (hb hby d1_9) rfl k) ?_
          show own_G p e below _ T8 (mkF m 10 #[.val (.int k1), .val (.ref h0.size), .val (.int (10 : Int32)), .val (.int (4 : Int32)), .val (.ref a_MODIFY)] [(.int (4 : Int32))])
          refine own_go (fun t k => XS.iloadN X8.here hx rfl (hb hby d1_10) rfl k) ?_
          show own_G p e below _ T8 (mkF m 11 #[.val (.int k1), .val (.ref h0.size), .val (.int (10 : Int32)), .val (.int (4 : Int32)), .val (.ref a_MODIFY)] [(.int (10 : Int32)), (.int (4 : Int32))])
          refine own_go (fun t k => XS.icmpNo X8.here hx rfl (hb hby d1_11) rfl (by decide) k) ?_
          show own_G p e below _ T8 (mkF m 14 #[.val (.int k1), .val (.ref h0.size), .val (.int (10 : Int32)), .val (.int (4 : Int32)), .val (.ref a_MODIFY)] [])
          refine own_go (fun t k => XS.aloadN X8.here hx rfl (hb hby d1_14) rfl rfl k) ?_
          show own_G p e below _ T8 (mkF m 15 #[.val (.int k1), .val (.ref h0.size), .val (.int (10 : Int32)), .val (.int (4 : Int32)), .val (.ref a_MODIFY)] [(.ref h0.size)])
          refine own_go (fun t k => XS.iloadN X8.here hx rfl (hb hby d1_15) rfl k) ?_
          show own_G p e below _ T8 (mkF m 16 #[.val (.int k1), .val (.ref h0.size), .val (.int (10 : Int32)), .val (.int (4 : Int32)), .val (.ref a_MODIFY)] [(.int (4 : Int32)), (.ref h0.size)])
          refine own_go (X8.aaload hx (j := (4 : Int32)) (v := (.ref a_ADD)) (own_cellAt e8 A1) (State.isArrayOf_alike hZ.alike A1.2.1) rfl A1.2.2 (own_in Z1 (by decide)) V_VALUES_4 (g := (mkF m 16 #[.val (.int k1), .val (.ref h0.size), .val (.int (10 : Int32)), .val (.int (4 : Int32)), .val (.ref a_MODIFY)] [(.int (4 : Int32)), (.ref h0.size)])) rfl rfl (hb hby d1_16)) ?_
          show own_G p e below _ T8 (mkF m 17 #[.val (.int k1), .val (.ref h0.size), .val (.int (10 : Int32)), .val (.int (4 : Int32)), .val (.ref a_MODIFY)] [(.ref a_ADD)])
          refine own_go (fun t k => XS.astore X8.here hx rfl (hb hby d1_17) rfl rfl (l' := #[.val (.int k1), .val (.ref h0.size), .val (.int (10 : Int32)), .val (.int (4 : Int32)), .val (.ref a_ADD)]) rfl k) ?_
          show own_G p e below _ T8 (mkF m 19 #[.val (.int k1), .val (.ref h0.size), .val (.int (10 : Int32)), .val (.int (4 : Int32)), .val (.ref a_ADD)] [])
          refine own_go (fun t k => XS.aload X8.here hx rfl (hb hby d1_19) rfl rfl k) ?_
          show own_G p e below _ T8 (mkF m 21 #[.val (.int k1), .val (.ref h0.size), .val (.int (10 : Int32)), .val (.int (4 : Int32)), .val (.ref a_ADD)] [(.ref a_ADD)])
          obtain ⟨T10, X10, e10, st10⟩ := getF X8 hx hZ hown (host := "") (Or.inl (hw _ (List.mem_of_getElem? (i := 30) rfl))) Via.refl e8 (F_ADD_requestTag.ext q1) (g := (mkF m 21 #[.val (.int k1), .val (.ref h0.size), .val (.int (10 : Int32)), .val (.int (4 : Int32)), .val (.ref a_ADD)] [(.ref a_ADD)])) rfl rfl (hb hby d1_21)
          refine own_go st10 ?_
          show own_G p e below _ T10 (mkF m 24 #[.val (.int k1), .val (.ref h0.size), .val (.int (10 : Int32)), .val (.int (4 : Int32)), .val (.ref a_ADD)] [(.int (104 : Int32))])
          refine own_go (fun t k => XS.iloadN X10.here hx rfl (hb hby d1_24) rfl k) ?_
          show own_G p e below _ T10 (mkF m 25 #[.val (.int k1), .val (.ref h0.size), .val (.int (10 : Int32)), .val (.int (4 : Int32)), .val (.ref a_ADD)] [(.int k1), (.int (104 : Int32))])
          by_cases hc11 : (104 : Int32) = k1
          ·
            refine own_go (fun t k => XS.icmpNo X10.here hx rfl (hb hby d1_25) rfl (Jvm.Free.XT.ii_ne_f hc11) k) ?_
            show own_G p e below _ T10 (mkF m 28 #[.val (.int k1), .val (.ref h0.size), .val (.int (10 : Int32)), .val (.int (4 : Int32)), .val (.ref a_ADD)] [])
            refine own_go (fun t k => XS.aload X10.here hx rfl (hb hby d1_28) rfl rfl k) ?_
            show own_G p e below _ T10 (mkF m 30 #[.val (.int k1), .val (.ref h0.size), .val (.int (10 : Int32)), .val (.int (4 : Int32)), .val (.ref a_ADD)] [(.ref a_ADD)])
            exact own_retA X10 hx hlk hret rfl rfl (hb hby d1_30) (by decide) (by decide) ⟨congrArg some (Eq.symm (show (own_of a_VALUES a_BIND a_UNBIND a_SEARCH a_MODIFY a_ADD a_DELETE a_MODIFY_DN a_COMPARE a_ABANDON a_EXTENDED cl_VALUES k1) = (.ref a_ADD) from (by unfold own_of; rw [if_neg hc3, if_neg hc5, if_neg hc7, if_neg hc9, if_pos hc11]))), rfl, (own_ext_eq q1 e10)⟩
          ·
            refine own_go (fun t k => XS.icmpYes X10.here hx rfl (pc0 := 25) (pc' := 31) rfl (hb hby d1_25) rfl (Jvm.Free.XT.ii_ne_t hc11) (by decide) (by decide) k) ?_
            show own_G p e below _ T10 (mkF m 31 #[.val (.int k1), .val (.ref h0.size), .val (.int (10 : Int32)), .val (.int (4 : Int32)), .val (.ref a_ADD)] [])
            refine own_go (fun t k => XS.iinc X10.here hx rfl (hb hby d1_31) rfl (l' := #[.val (.int k1), .val (.ref h0.size), .val (.int (10 : Int32)), .val (.int (5 : Int32)), .val (.ref a_ADD)]) rfl k) ?_
            show own_G p e below _ T10 (mkF m 34 #[.val (.int k1), .val (.ref h0.size), .val (.int (10 : Int32)), .val (.int (5 : Int32)), .val (.ref a_ADD)] [])
            refine own_go (fun t k => XS.goto X10.here hx rfl (pc0 := 34) (pc' := 9) rfl (hb hby d1_34) (by decide) (by decide) k) ?_
            show own_G p e below _ T10 (mkF m 9 #[.val (.int k1), .val (.ref h0.size), .val (.int (10 : Int32)), .val (.int (5 : Int32)), .val (.ref a_ADD)] [])
            refine own_go (fun t k => XS.iloadN X10.here hx rfl (hb hby d1_9) rfl k) ?_
            show own_G p e below _ T10 (mkF m 10 #[.val (.int k1), .val (.ref h0.size), .val (.int (10 : Int32)), .val (.int (5 : Int32)), .val (.ref a_ADD)] [(.int (5 : Int32))])
            refine own_go (fun t k => XS.iloadN X10.here hx rfl (hb hby d1_10) rfl k) ?_
            show own_G p e below _ T10 (mkF m 11 #[.val (.int k1), .val (.ref h0.size), .val (.int (10 : Int32)), .val (.int (5 : Int32)), .val (.ref a_ADD)] [(.int (10 : Int32)), (.int (5 : Int32))])
            refine own_go (fun t k => XS.icmpNo X10.here hx rfl (hb hby d1_11) rfl (by decide) k) ?_
            show own_G p e below _ T10 (mkF m 14 #[.val (.int k1), .val (.ref h0.size), .val (.int (10 : Int32)), .val (.int (5 : Int32)), .val (.ref a_ADD)] [])
            refine own_go (fun t k => XS.aloadN X10.here hx rfl (hb hby d1_14) rfl rfl k) ?_
            show own_G p e below _ T10 (mkF m 15 #[.val (.int k1), .val (.ref h0.size), .val (.int (10 : Int32)), .val (.int (5 : Int32)), .val (.ref a_ADD)] [(.ref h0.size)])
            refine own_go (fun t k => XS.iloadN X10.here hx rfl (hb hby d1_15) rfl k) ?_
            show own_G p e below _ T10 (mkF m 16 #[.val (.int k1), .val (.ref h0.size), .val (.int (10 : Int32)), .val (.int (5 : Int32)), .val (.ref a_ADD)] [(.int (5 : Int32)), (.ref h0.size)])
            refine own_go (X10.aaload hx (j := (5 : Int32)) (v := (.ref a_DELETE)) (own_cellAt e10 A1) (State.isArrayOf_alike hZ.alike A1.2.1) rfl A1.2.2 (own_in Z1 (by decide)) V_VALUES_5 (g := (mkF m 16 #[.val (.int k1), .val (.ref h0.size), .val (.int (10 : Int32)), .val (.int (5 : Int32)), .val (.ref a_ADD)] [(.int (5 : Int32)), (.ref h0.size)])) rfl rfl (hb hby d1_16)) ?_
            show own_G p e below _ T10 (mkF m 17 #[.val (.int k1), .val (.ref h0.size), .val (.int (10 : Int32)), .val (.int (5 : Int32)), .val (.ref a_ADD)] [(.ref a_DELETE)])
            refine own_go (fun t k => XS.astore X10.here hx rfl (hb hby d1_17) rfl rfl (l' := #[.val (.int k1), .val (.ref h0.size), .val (.int (10 : Int32)), .val (.int (5 : Int32)), .val (.ref a_DELETE)]) rfl k) ?_
            show own_G p e below _ T10 (mkF m 19 #[.val (.int k1), .val (.ref h0.size), .val (.int (10 : Int32)), .val (.int (5 : Int32)), .val (.ref a_DELETE)] [])
            refine own_go (fun t k => XS.aload X10.here hx rfl (hb hby d1_19) rfl rfl k) ?_
            show own_G p e below _ T10 (mkF m 21 #[.val (.int k1), .val (.ref h0.size), .val (.int (10 : Int32)), .val (.int (5 : Int32)), .val (.ref a_DELETE)] [(.ref a_DELETE)])
            obtain ⟨T12, X12, e12, st12⟩ := getF X10 hx hZ hown (host := "") (Or.inl (hw _ (List.mem_of_getElem? (i := 30) rfl))) Via.refl e10 (F_DELETE_requestTag.ext q1) (g := (mkF m 21 #[.val (.int k1), .val (.ref h0.size), .val (.int (10 : Int32)), .val (.int (5 : Int32)), .val (.ref a_DELETE)] [(.ref a_DELETE)])) rfl rfl (hb hby d1_21)
            refine own_go st12 ?_
            show own_G p e below _ T12 (mkF m 24 #[.val (.int k1), .val (.ref h0.size), .val (.int (10 : Int32)), .val (.int (5 : Int32)), .val (.ref a_DELETE)] [(.int (74 : Int32))])
            refine own_go (fun t k => XS.iloadN X12.here hx rfl (hb hby d1_24) rfl k) ?_
            show own_G p e below _ T12 (mkF m 25 #[.val (.int k1), .val (.ref h0.size), .val (.int (10 : Int32)), .val (.int (5 : Int32)), .val (.ref a_DELETE)] [(.int k1), (.int (74 : Int32))])
            by_cases hc13 : (74 : Int32) = k1
            ·
              refine own_go (fun t k => XS.icmpNo X12.here hx rfl (hb hby d1_25) rfl (Jvm.Free.XT.ii_ne_f hc13) k) ?_
              show own_G p e below _ T12 (mkF m 28 #[.val (.int k1), .val (.ref h0.size), .val (.int (10 : Int32)), .val (.int (5 : Int32)), .val (.ref a_DELETE)] [])
              refine own_go (fun t k => XS.aload X12.here hx rfl (hb hby d1_28) rfl rfl k) ?_
              show own_G p e below _ T12 (mkF m 30 #[.val (.int k1), .val (.ref h0.size), .val (.int (10 : Int32)), .val (.int (5 : Int32)), .val (.ref a_DELETE)] [(.ref a_DELETE)])
              exact own_retA X12 hx hlk hret rfl rfl (hb hby d1_30) (by decide) (by decide) ⟨congrArg some (Eq.symm (show (own_of a_VALUES a_BIND a_UNBIND a_SEARCH a_MODIFY a_ADD a_DELETE a_MODIFY_DN a_COMPARE a_ABANDON a_EXTENDED cl_VALUES k1) = (.ref a_DELETE) from (by unfold own_of; rw [if_neg hc3, if_neg hc5, if_neg hc7, if_neg hc9, if_neg hc11, if_pos hc13]))), rfl, (own_ext_eq q1 e12)⟩
            ·
              refine own_go (fun t k => XS.icmpYes X12.here hx rfl (pc0 := 25) (pc' := 31) rfl (hb hby d1_25) rfl (Jvm.Free.XT.ii_ne_t hc13) (by decide) (by decide) k) ?_
              show own_G p e below _ T12 (mkF m 31 #[.val (.int k1), .val (.ref h0.size), .val (.int (10 : Int32)), .val (.int (5 : Int32)), .val (.ref a_DELETE)] [])
              refine own_go (fun t k => XS.iinc X12.here hx rfl (hb hby d1_31) rfl (l' := #[.val (.int k1), .val (.ref h0.size), .val (.int (10 : Int32)), .val (.int (6 : Int32)), .val (.ref a_DELETE)]) rfl k) ?_
              show own_G p e below _ T12 (mkF m 34 #[.val (.int k1), .val (.ref h0.size), .val (.int (10 : Int32)), .val (.int (6 : Int32)), .val (.ref a_DELETE)] [])
              refine own_go (fun t k => XS.goto X12.here hx rfl (pc0 := 34) (pc' := 9) rfl (hb hby d1_34) (by decide) (by decide) k) ?_
              show own_G p e below _ T12 (mkF m 9 #[.val (.int k1), .val (.ref h0.size), .val (.int (10 : Int32)), .val (.int (6 : Int32)), .val (.ref a_DELETE)] [])
              refine own_go (fun t k => XS.iloadN X12.here hx rfl (hb hby d1_9) rfl k) ?_
              show own_G p e below _ T12 (mkF m 10 #[.val (.int k1), .val (.ref h0.size), .val (.int (10 : Int32)), .val (.int (6 : Int32)), .val (.ref a_DELETE)] [(.int (6 : Int32))])
              refine own_go (fun t k => XS.iloadN X12.here hx rfl (hb hby d1_10) rfl k) ?_
              show own_G p e below _ T12 (mkF m 11 #[.val (.int k1), .val (.ref h0.size), .val (.int (10 : Int32)), .val (.int (6 : Int32)), .val (.ref a_DELETE)] [(.int (10 : Int32)), (.int (6 : Int32))])
              refine own_go (fun t k => XS.icmpNo X12.here hx rfl (hb hby d1_11) rfl (by decide) k) ?_
              show own_G p e below _ T12 (mkF m 14 #[.val (.int k1), .val (.ref h0.size), .val (.int (10 : Int32)), .val (.int (6 : Int32)), .val (.ref a_DELETE)] [])
              refine own_go (fun t k => XS.aloadN X12.here hx rfl (hb hby d1_14) rfl rfl k) ?_
              show own_G p e below _ T12 (mkF m 15 #[.val (.int k1), .val (.ref h0.size), .val (.int (10 : Int32)), .val (.int (6 : Int32)), .val (.ref a_DELETE)] [(.ref h0.size)])
              refine own_go (fun t k => XS.iloadN X12.here hx rfl (hb hby d1_15) rfl k) ?_
              show own_G p e below _ T12 (mkF m 16 #[.val (.int k1), .val (.ref h0.size), .val (.int (10 : Int32)), .val (.int (6 : Int32)), .val (.ref a_DELETE)] [(.int (6 : Int32)), (.ref h0.size)])
              refine own_go (X12.aaload hx (j := (6 : Int32)) (v := (.ref a_MODIFY_DN)) (own_cellAt e12 A1) (State.isArrayOf_alike hZ.alike A1.2.1) rfl A1.2.2 (own_in Z1 (by decide)) V_VALUES_6 (g := (mkF m 16 #[.val (.int k1), .val (.ref h0.size), .val (.int (10 : Int32)), .val (.int (6 : Int32)), .val (.ref a_DELETE)] [(.int (6 : Int32)), (.ref h0.size)])) rfl rfl (hb hby d1_16)) ?_
              show own_G p e below _ T12 (mkF m 17 #[.val (.int k1), .val (.ref h0.size), .val (.int (10 : Int32)), .val (.int (6 : Int32)), .val (.ref a_DELETE)] [(.ref a_MODIFY_DN)])
              refine own_go (fun t k => XS.astore X12.here hx rfl (hb hby d1_17) rfl rfl (l' := #[.val (.int k1), .val (.ref h0.size), .val (.int (10 : Int32)), .val (.int (6 : Int32)), .val (.ref a_MODIFY_DN)]) rfl k) ?_
              show own_G p e below _ T12 (mkF m 19 #[.val (.int k1), .val (.ref h0.size), .val (.int (10 : Int32)), .val (.int (6 : Int32)), .val (.ref a_MODIFY_DN)] [])
              refine own_go (fun t k => XS.aload X12.here hx rfl (hb hby d1_19) rfl rfl k) ?_
              show own_G p e below _ T12 (mkF m 21 #[.val (.int k1), .val (.ref h0.size), .val (.int (10 : Int32)), .val (.int (6 : Int32)), .val (.ref a_MODIFY_DN)] [(.ref a_MODIFY_DN)])
              obtain ⟨T14, X14, e14, st14⟩ := getF X12 hx hZ hown (host := "") (Or.inl (hw _ (List.mem_of_getElem? (i := 30) rfl))) Via.refl e12 (F_MODIFY_DN_requestTag.ext q1) (g := (mkF m 21 #[.val (.int k1), .val (.ref h0.size), .val (.int (10 : Int32)), .val (.int (6 : Int32)), .val (.ref a_MODIFY_DN)] [(.ref a_MODIFY_DN)])) rfl rfl (hb hby d1_21)
              refine own_go st14 ?_
              show own_G p e below _ T14 (mkF m 24 #[.val (.int k1), .val (.ref h0.size), .val (.int (10 : Int32)), .val (.int (6 : Int32)), .val (.ref a_MODIFY_DN)] [(.int (108 : Int32))])
              refine own_go (fun t k => XS.iloadN X14.here hx rfl (hb hby d1_24) rfl k) ?_
              show own_G p e below _ T14 (mkF m 25 #[.val (.int k1), .val (.ref h0.size), .val (.int (10 : Int32)), .val (.int (6 : Int32)), .val (.ref a_MODIFY_DN)] [(.int k1), (.int (108 : Int32))])
              by_cases hc15 : (108 : Int32) = k1
              ·
                refine own_go (fun t k => XS.icmpNo X14.here hx rfl (hb hby d1_25) rfl (Jvm.Free.XT.ii_ne_f hc15) k) ?_
                show own_G p e below _ T14 (mkF m 28 #[.val (.int k1), .val (.ref h0.size), .val (.int (10 : Int32)), .val (.int (6 : Int32)), .val (.ref a_MODIFY_DN)] [])
                refine own_go (fun t k => XS.aload X14.here hx rfl (hb hby d1_28) rfl rfl k) ?_
                show own_G p e below _ T14 (mkF m 30 #[.val (.int k1), .val (.ref h0.size), .val (.int (10 : Int32)), .val (.int (6 : Int32)), .val (.ref a_MODIFY_DN)] [(.ref a_MODIFY_DN)])
                exact own_retA X14 hx hlk hret rfl rfl (hb hby d1_30) (by decide) (by decide) ⟨congrArg some (Eq.symm (show (own_of a_VALUES a_BIND a_UNBIND a_SEARCH a_MODIFY a_ADD a_DELETE a_MODIFY_DN a_COMPARE a_ABANDON a_EXTENDED cl_VALUES k1) = (.ref a_MODIFY_DN) from (by unfold own_of; rw [if_neg hc3, if_neg hc5, if_neg hc7, if_neg hc9, if_neg hc11, if_neg hc13, if_pos hc15]))), rfl, (own_ext_eq q1 e14)⟩
              ·
                refine own_go (fun t k => XS.icmpYes X14.here hx rfl (pc0 := 25) (pc' := 31) rfl (hb hby d1_25) rfl (Jvm.Free.XT.ii_ne_t hc15) (by decide) (by decide) k) ?_
                show own_G p e below _ T14 (mkF m 31 #[.val (.int k1), .val (.ref h0.size), .val (.int (10 : Int32)), .val (.int (6 : Int32)), .val (.ref a_MODIFY_DN)] [])
                refine own_go (fun t k => XS.iinc X14.here hx rfl (hb hby d1_31) rfl (l' := #[.val (.int k1), .val (.ref h0.size), .val (.int (10 : Int32)), .val (.int (7 : Int32)), .val (.ref a_MODIFY_DN)]) rfl k) ?_
                show own_G p e below _ T14 (mkF m 34 #[.val (.int k1), .val (.ref h0.size), .val (.int (10 : Int32)), .val (.int (7 : Int32)), .val (.ref a_MODIFY_DN)] [])
                refine own_go (fun t k => XS.goto X14.here hx rfl (pc0 := 34) (pc' := 9) rfl (hb hby d1_34) (by decide) (by decide) k) ?_
                show own_G p e below _ T14 (mkF m 9 #[.val (.int k1), .val (.ref h0.size), .val (.int (10 : Int32)), .val (.int (7 : Int32)), .val (.ref a_MODIFY_DN)] [])
                refine own_go (fun t k => XS.iloadN X14.here hx rfl (hb hby d1_9) rfl k) ?_
                show own_G p e below _ T14 (mkF m 10 #[.val (.int k1), .val (.ref h0.size), .val (.int (10 : Int32)), .val (.int (7 : Int32)), .val (.ref a_MODIFY_DN)] [(.int (7 : Int32))])
                refine own_go (fun t k => XS.iloadN X14.here hx rfl (hb hby d1_10) rfl k) ?_
                show own_G p e below _ T14 (mkF m 11 #[.val (.int k1), .val (.ref h0.size), .val (.int (10 : Int32)), .val (.int (7 : Int32)), .val (.ref a_MODIFY_DN)] [(.int (10 : Int32)), (.int (7 : Int32))])
                refine own_go (fun t k => XS.icmpNo X14.here hx rfl (hb hby d1_11) rfl (by decide) k) ?_
                show own_G p e below _ T14 (mkF m 14 #[.val (.int k1), .val (.ref h0.size), .val (.int (10 : Int32)), .val (.int (7 : Int32)), .val (.ref a_MODIFY_DN)] [])
                refine own_go (fun t k => XS.aloadN X14.here hx rfl (hb hby d1_14) rfl rfl k) ?_
                show own_G p e below _ T14 (mkF m 15 #[.val (.int k1), .val (.ref h0.size), .val (.int (10 : Int32)), .val (.int (7 : Int32)), .val (.ref a_MODIFY_DN)] [(.ref h0.size)])
                refine own_go (fun t k => XS.iloadN X14.here hx rfl (hb hby d1_15) rfl k) ?_
                show own_G p e below _ T14 (mkF m 16 #[.val (.int k1), .val (.ref h0.size), .val (.int (10 : Int32)), .val (.int (7 : Int32)), .val (.ref a_MODIFY_DN)] [(.int (7 : Int32)), (.ref h0.size)])
                refine own_go (X14.aaload hx (j := (7 : Int32)) (v := (.ref a_COMPARE)) (own_cellAt e14 A1) (State.isArrayOf_alike hZ.alike A1.2.1) rfl A1.2.2 (own_in Z1 (by decide)) V_VALUES_7 (g := (mkF m 16 #[.val (.int k1), .val (.ref h0.size), .val (.int (10 : Int32)), .val (.int (7 : Int32)), .val (.ref a_MODIFY_DN)] [(.int (7 : Int32)), (.ref h0.size)])) rfl rfl (hb hby d1_16)) ?_
                show own_G p e below _ T14 (mkF m 17 #[.val (.int k1), .val (.ref h0.size), .val (.int (10 : Int32)), .val (.int (7 : Int32)), .val (.ref a_MODIFY_DN)] [(.ref a_COMPARE)])
                refine own_go (fun t k => XS.astore X14.here hx rfl (hb hby d1_17) rfl rfl (l' := #[.val (.int k1), .val (.ref h0.size), .val (.int (10 : Int32)), .val (.int (7 : Int32)), .val (.ref a_COMPARE)]) rfl k) ?_
                show own_G p e below _ T14 (mkF m 19 #[.val (.int k1), .val (.ref h0.size), .val (.int (10 : Int32)), .val (.int (7 : Int32)), .val (.ref a_COMPARE)] [])
                refine own_go (fun t k => XS.aload X14.here hx rfl (hb hby d1_19) rfl rfl k) ?_
                show own_G p e below _ T14 (mkF m 21 #[.val (.int k1), .val (.ref h0.size), .val (.int (10 : Int32)), .val (.int (7 : Int32)), .val (.ref a_COMPARE)] [(.ref a_COMPARE)])
                obtain ⟨T16, X16, e16, st16⟩ := getF X14 hx hZ hown (host := "") (Or.inl (hw _ (List.mem_of_getElem? (i := 30) rfl))) Via.refl e14 (F_COMPARE_requestTag.ext q1) (g := (mkF m 21 #[.val (.int k1), .val (.ref h0.size), .val (.int (10 : Int32)), .val (.int (7 : Int32)), .val (.ref a_COMPARE)] [(.ref a_COMPARE)])) rfl rfl (hb hby d1_21)
                refine own_go st16 ?_
                show own_G p e below _ T16 (mkF m 24 #[.val (.int k1), .val (.ref h0.size), .val (.int (10 : Int32)), .val (.int (7 : Int32)), .val (.ref a_COMPARE)] [(.int (110 : Int32))])
                refine own_go (fun t k => XS.iloadN X16.here hx rfl (hb hby d1_24) rfl k) ?_
                show own_G p e below _ T16 (mkF m 25 #[.val (.int k1), .val (.ref h0.size), .val (.int (10 : Int32)), .val (.int (7 : Int32)), .val (.ref a_COMPARE)] [(.int k1), (.int (110 : Int32))])
                by_cases hc17 : (110 : Int32) = k1
                ·
                  refine own_go (fun t k => XS.icmpNo X16.here hx rfl (hb hby d1_25) rfl (Jvm.Free.XT.ii_ne_f hc17) k) ?_
                  show own_G p e below _ T16 (mkF m 28 #[.val (.int k1), .val (.ref h0.size), .val (.int (10 : Int32)), .val (.int (7 : Int32)), .val (.ref a_COMPARE)] [])
                  refine own_go (fun t k => XS.aload X16.here hx rfl (hb hby d1_28) rfl rfl k) ?_
                  show own_G p e below _ T16 (mkF m 30 #[.val (.int k1), .val (.ref h0.size), .val (.int (10 : Int32)), .val (.int (7 : Int32)), .val (.ref a_COMPARE)] [(.ref a_COMPARE)])
                  exact own_retA X16 hx hlk hret rfl rfl (hb hby d1_30) (by decide) (by decide) ⟨congrArg some (Eq.symm (show (own_of a_VALUES a_BIND a_UNBIND a_SEARCH a_MODIFY a_ADD a_DELETE a_MODIFY_DN a_COMPARE a_ABANDON a_EXTENDED cl_VALUES k1) = (.ref a_COMPARE) from (by unfold own_of; rw [if_neg hc3, if_neg hc5, if_neg hc7, if_neg hc9, if_neg hc11, if_neg hc13, if_neg hc15, if_pos hc17]))), rfl, (own_ext_eq q1 e16)⟩
                ·
                  refine own_go (fun t k => XS.icmpYes X16.here hx rfl (pc0 := 25) (pc' := 31) rfl (hb hby d1_25) rfl (Jvm.Free.XT.ii_ne_t hc17) (by decide) (by decide) k) ?_
                  show own_G p e below _ T16 (mkF m 31 #[.val (.int k1), .val (.ref h0.size), .val (.int (10 : Int32)), .val (.int (7 : Int32)), .val (.ref a_COMPARE)] [])
                  refine own_go (fun t k => XS.iinc X16.here hx rfl (hb hby d1_31) rfl (l' := #[.val (.int k1), .val (.ref h0.size), .val (.int (10 : Int32)), .val (.int (8 : Int32)), .val (.ref a_COMPARE)]) rfl k) ?_
                  show own_G p e below _ T16 (mkF m 34 #[.val (.int k1), .val (.ref h0.size), .val (.int (10 : Int32)), .val (.int (8 : Int32)), .val (.ref a_COMPARE)] [])
                  refine own_go (fun t k => XS.goto X16.here hx rfl (pc0 := 34) (pc' := 9) rfl (hb hby d1_34) (by decide) (by decide) k) ?_
                  show own_G p e below _ T16 (mkF m 9 #[.val (.int k1), .val (.ref h0.size), .val (.int (10 : Int32)), .val (.int (8 : Int32)), .val (.ref a_COMPARE)] [])
                  refine own_go (fun t k => XS.iloadN X16.here hx rfl (hb hby d1_9) rfl k) ?_
                  show own_G p e below _ T16 (mkF m 10 #[.val (.int k1), .val (.ref h0.size), .val (.int (10 : Int32)), .val (.int (8 : Int32)), .val (.ref a_COMPARE)] [(.int (8 : Int32))])
                  refine own_go (fun t k => XS.iloadN X16.here hx rfl (hb hby d1_10) rfl k) ?_
                  show own_G p e below _ T16 (mkF m 11 #[.val (.int k1), .val (.ref h0.size), .val (.int (10 : Int32)), .val (.int (8 : Int32)), .val (.ref a_COMPARE)] [(.int (10 : Int32)), (.int (8 : Int32))])
                  refine own_go (fun t k => XS.icmpNo X16.here hx rfl (hb hby d1_11) rfl (by decide) k) ?_
                  show own_G p e below _ T16 (mkF m 14 #[.val (.int k1), .val (.ref h0.size), .val (.int (10 : Int32)), .val (.int (8 : Int32)), .val (.ref a_COMPARE)] [])
                  refine own_go (fun t k => XS.aloadN X16.here hx rfl (hb hby d1_14) rfl rfl k) ?_
                  show own_G p e below _ T16 (mkF m 15 #[.val (.int k1), .val (.ref h0.size), .val (.int (10 : Int32)), .val (.int (8 : Int32)), .val (.ref a_COMPARE)] [(.ref h0.size)])
                  refine own_go (fun t k => XS.iloadN X16.here hx rfl (hb hby d1_15) rfl k) ?_
                  show own_G p e below _ T16 (mkF m 16 #[.val (.int k1), .val (.ref h0.size), .val (.int (10 : Int32)), .val (.int (8 : Int32)), .val (.ref a_COMPARE)] [(.int (8 : Int32)), (.ref h0.size)])
                  refine own_go (X16.aaload hx (j := (8 : Int32)) (v := (.ref a_ABANDON)) (own_cellAt e16 A1) (State.isArrayOf_alike hZ.alike A1.2.1) rfl A1.2.2 (own_in Z1 (by decide)) V_VALUES_8 (g := (mkF m 16 #[.val (.int k1), .val (.ref h0.size), .val (.int (10 : Int32)), .val (.int (8 : Int32)), .val (.ref a_COMPARE)] [(.int (8 : Int32)), (.ref h0.size)])) rfl rfl (hb hby d1_16)) ?_
                  show own_G p e below _ T16 (mkF m 17 #[.val (.int k1), .val (.ref h0.size), .val (.int (10 : Int32)), .val (.int (8 : Int32)), .val (.ref a_COMPARE)] [(.ref a_ABANDON)])
                  refine own_go (fun t k => XS.astore X16.here hx rfl (hb hby d1_17) rfl rfl (l' := #[.val (.int k1), .val (.ref h0.size), .val (.int (10 : Int32)), .val (.int (8 : Int32)), .val (.ref a_ABANDON)]) rfl k) ?_
                  show own_G p e below _ T16 (mkF m 19 #[.val (.int k1), .val (.ref h0.size), .val (.int (10 : Int32)), .val (.int (8 : Int32)), .val (.ref a_ABANDON)] [])
                  refine own_go (fun t k => XS.aload X16.here hx rfl (hb hby d1_19) rfl rfl k) ?_
                  show own_G p e below _ T16 (mkF m 21 #[.val (.int k1), .val (.ref h0.size), .val (.int (10 : Int32)), .val (.int (8 : Int32)), .val (.ref a_ABANDON)] [(.ref a_ABANDON)])
                  obtain ⟨T18, X18, e18, st18⟩ := getF X16 hx hZ hown (host := "") (Or.inl (hw _ (List.mem_of_getElem? (i := 30) rfl))) Via.refl e16 (F_ABANDON_requestTag.ext q1) (g := (mkF m 21 #[.val (.int k1), .val (.ref h0.size), .val (.int (10 : Int32)), .val (.int (8 : Int32)), .val (.ref a_ABANDON)] [(.ref a_ABANDON)])) rfl rfl (hb hby d1_21)
                  refine own_go st18 ?_
                  show own_G p e below _ T18 (mkF m 24 #[.val (.int k1), .val (.ref h0.size), .val (.int (10 : Int32)), .val (.int (8 : Int32)), .val (.ref a_ABANDON)] [(.int (80 : Int32))])
                  refine own_go (fun t k => XS.iloadN X18.here hx rfl (hb hby d1_24) rfl k) ?_
                  show own_G p e below _ T18 (mkF m 25 #[.val (.int k1), .val (.ref h0.size), .val (.int (10 : Int32)), .val (.int (8 : Int32)), .val (.ref a_ABANDON)] [(.int k1), (.int (80 : Int32))])
                  by_cases hc19 : (80 : Int32) = k1
                  ·
                    refine own_go (fun t k => XS.icmpNo X18.here hx rfl (hb hby d1_25) rfl (Jvm.Free.XT.ii_ne_f hc19) k) ?_
                    show own_G p e below _ T18 (mkF m 28 #[.val (.int k1), .val (.ref h0.size), .val (.int (10 : Int32)), .val (.int (8 : Int32)), .val (.ref a_ABANDON)] [])
                    refine own_go (fun t k => XS.aload X18.here hx rfl (hb hby d1_28) rfl rfl k) ?_
                    show own_G p e below _ T18 (mkF m 30 #[.val (.int k1), .val (.ref h0.size), .val (.int (10 : Int32)), .val (.int (8 : Int32)), .val (.ref a_ABANDON)] [(.ref a_ABANDON)])
                    exact own_retA X18 hx hlk hret rfl rfl (hb hby d1_30) (by decide) (by decide) ⟨congrArg some (Eq.symm (show (own_of a_VALUES a_BIND a_UNBIND a_SEARCH a_MODIFY a_ADD a_DELETE a_MODIFY_DN a_COMPARE a_ABANDON a_EXTENDED cl_VALUES k1) = (.ref a_ABANDON) from (by unfold own_of; rw [if_neg hc3, if_neg hc5, if_neg hc7, if_neg hc9, if_neg hc11, if_neg hc13, if_neg hc15, if_neg hc17, if_pos hc19]))), rfl, (own_ext_eq q1 e18)⟩
                  ·
                    refine own_go (fun t k => XS.icmpYes X18.here hx rfl (pc0 := 25) (pc' := 31) rfl (hb hby d1_25) rfl (Jvm.Free.XT.ii_ne_t hc19) (by decide) (by decide) k) ?_
                    show own_G p e below _ T18 (mkF m 31 #[.val (.int k1), .val (.ref h0.size), .val (.int (10 : Int32)), .val (.int (8 : Int32)), .val (.ref a_ABANDON)] [])
                    refine own_go (fun t k => XS.iinc X18.here hx rfl (hb hby d1_31) rfl (l' := #[.val (.int k1), .val (.ref h0.size), .val (.int (10 : Int32)), .val (.int (9 : Int32)), .val (.ref a_ABANDON)]) rfl k) ?_
                    show own_G p e below _ T18 (mkF m 34 #[.val (.int k1), .val (.ref h0.size), .val (.int (10 : Int32)), .val (.int (9 : Int32)), .val (.ref a_ABANDON)] [])
                    refine own_go (fun t k => XS.goto X18.here hx rfl (pc0 := 34) (pc' := 9) rfl (hb hby d1_34) (by decide) (by decide) k) ?_
                    show own_G p e below _ T18 (mkF m 9 #[.val (.int k1), .val (.ref h0.size), .val (.int (10 : Int32)), .val (.int (9 : Int32)), .val (.ref a_ABANDON)] [])
                    refine own_go (fun t k => XS.iloadN X18.here hx rfl (hb hby d1_9) rfl k) ?_
                    show own_G p e below _ T18 (mkF m 10 #[.val (.int k1), .val (.ref h0.size), .val (.int (10 : Int32)), .val (.int (9 : Int32)), .val (.ref a_ABANDON)] [(.int (9 : Int32))])
                    refine own_go (fun t k => XS.iloadN X18.here hx rfl (hb hby d1_10) rfl k) ?_
                    show own_G p e below _ T18 (mkF m 11 #[.val (.int k1), .val (.ref h0.size), .val (.int (10 : Int32)), .val (.int (9 : Int32)), .val (.ref a_ABANDON)] [(.int (10 : Int32)), (.int (9 : Int32))])
                    refine own_go (fun t k => XS.icmpNo X18.here hx rfl (hb hby d1_11) rfl (by decide) k) ?_
                    show own_G p e below _ T18 (mkF m 14 #[.val (.int k1), .val (.ref h0.size), .val (.int (10 : Int32)), .val (.int (9 : Int32)), .val (.ref a_ABANDON)] [])
                    refine own_go (fun t k => XS.aloadN X18.here hx rfl (hb hby d1_14) rfl rfl k) ?_
                    show own_G p e below _ T18 (mkF m 15 #[.val (.int k1), .val (.ref h0.size), .val (.int (10 : Int32)), .val (.int (9 : Int32)), .val (.ref a_ABANDON)] [(.ref h0.size)])
                    refine own_go (fun t k => XS.iloadN X18.here hx rfl (hb hby d1_15) rfl k) ?_
                    show own_G p e below _ T18 (mkF m 16 #[.val (.int k1), .val (.ref h0.size), .val (.int (10 : Int32)), .val (.int (9 : Int32)), .val (.ref a_ABANDON)] [(.int (9 : Int32)), (.ref h0.size)])
                    refine own_go (X18.aaload hx (j := (9 : Int32)) (v := (.ref a_EXTENDED)) (own_cellAt e18 A1) (State.isArrayOf_alike hZ.alike A1.2.1) rfl A1.2.2 (own_in Z1 (by decide)) V_VALUES_9 (g := (mkF m 16 #[.val (.int k1), .val (.ref h0.size), .val (.int (10 : Int32)), .val (.int (9 : Int32)), .val (.ref a_ABANDON)] [(.int (9 : Int32)), (.ref h0.size)])) rfl rfl (hb hby d1_16)) ?_
                    show own_G p e below _ T18 (mkF m 17 #[.val (.int k1), .val (.ref h0.size), .val (.int (10 : Int32)), .val (.int (9 : Int32)), .val (.ref a_ABANDON)] [(.ref a_EXTENDED)])
                    refine own_go (fun t k => XS.astore X18.here hx rfl (hb hby d1_17) rfl rfl (l' := #[.val (.int k1), .val (.ref h0.size), .val (.int (10 : Int32)), .val (.int (9 : Int32)), .val (.ref a_EXTENDED)]) rfl k) ?_
                    show own_G p e below _ T18 (mkF m 19 #[.val (.int k1), .val (.ref h0.size), .val (.int (10 : Int32)), .val (.int (9 : Int32)), .val (.ref a_EXTENDED)] [])
                    refine own_go (fun t k => XS.aload X18.here hx rfl (hb hby d1_19) rfl rfl k) ?_
                    show own_G p e below _ T18 (mkF m 21 #[.val (.int k1), .val (.ref h0.size), .val (.int (10 : Int32)), .val (.int (9 : Int32)), .val (.ref a_EXTENDED)] [(.ref a_EXTENDED)])
                    obtain ⟨T20, X20, e20, st20⟩ := getF X18 hx hZ hown (host := "") (Or.inl (hw _ (List.mem_of_getElem? (i := 30) rfl))) Via.refl e18 (F_EXTENDED_requestTag.ext q1) (g := (mkF m 21 #[.val (.int k1), .val (.ref h0.size), .val (.int (10 : Int32)), .val (.int (9 : Int32)), .val (.ref a_EXTENDED)] [(.ref a_EXTENDED)])) rfl rfl (hb hby d1_21)
                    refine own_go st20 ?_
                    show own_G p e below _ T20 (mkF m 24 #[.val (.int k1), .val (.ref h0.size), .val (.int (10 : Int32)), .val (.int (9 : Int32)), .val (.ref a_EXTENDED)] [(.int (119 : Int32))])
                    refine own_go (fun t k => XS.iloadN X20.here hx rfl (hb hby d1_24) rfl k) ?_
                    show own_G p e below _ T20 (mkF m 25 #[.val (.int k1), .val (.ref h0.size), .val (.int (10 : Int32)), .val (.int (9 : Int32)), .val (.ref a_EXTENDED)] [(.int k1), (.int (119 : Int32))])
                    by_cases hc21 : (119 : Int32) = k1
                    ·
                      refine own_go (fun t k => XS.icmpNo X20.here hx rfl (hb hby d1_25) rfl (Jvm.Free.XT.ii_ne_f hc21) k) ?_
                      show own_G p e below _ T20 (mkF m 28 #[.val (.int k1), .val (.ref h0.size), .val (.int (10 : Int32)), .val (.int (9 : Int32)), .val (.ref a_EXTENDED)] [])
                      refine own_go (fun t k => XS.aload X20.here hx rfl (hb hby d1_28) rfl rfl k) ?_
                      show own_G p e below _ T20 (mkF m 30 #[.val (.int k1), .val (.ref h0.size), .val (.int (10 : Int32)), .val (.int (9 : Int32)), .val (.ref a_EXTENDED)] [(.ref a_EXTENDED)])
                      exact own_retA X20 hx hlk hret rfl rfl (hb hby d1_30) (by decide) (by decide) ⟨congrArg some (Eq.symm (show (own_of a_VALUES a_BIND a_UNBIND a_SEARCH a_MODIFY a_ADD a_DELETE a_MODIFY_DN a_COMPARE a_ABANDON a_EXTENDED cl_VALUES k1) = (.ref a_EXTENDED) from (by unfold own_of; rw [if_neg hc3, if_neg hc5, if_neg hc7, if_neg hc9, if_neg hc11, if_neg hc13, if_neg hc15, if_neg hc17, if_neg hc19, if_pos hc21]))), rfl, (own_ext_eq q1 e20)⟩
                    ·
                      refine own_go (fun t k => XS.icmpYes X20.here hx rfl (pc0 := 25) (pc' := 31) rfl (hb hby d1_25) rfl (Jvm.Free.XT.ii_ne_t hc21) (by decide) (by decide) k) ?_
                      show own_G p e below _ T20 (mkF m 31 #[.val (.int k1), .val (.ref h0.size), .val (.int (10 : Int32)), .val (.int (9 : Int32)), .val (.ref a_EXTENDED)] [])
                      refine own_go (fun t k => XS.iinc X20.here hx rfl (hb hby d1_31) rfl (l' := #[.val (.int k1), .val (.ref h0.size), .val (.int (10 : Int32)), .val (.int (10 : Int32)), .val (.ref a_EXTENDED)]) rfl k) ?_
                      show own_G p e below _ T20 (mkF m 34 #[.val (.int k1), .val (.ref h0.size), .val (.int (10 : Int32)), .val (.int (10 : Int32)), .val (.ref a_EXTENDED)] [])
                      refine own_go (fun t k => XS.goto X20.here hx rfl (pc0 := 34) (pc' := 9) rfl (hb hby d1_34) (by decide) (by decide) k) ?_
                      show own_G p e below _ T20 (mkF m 9 #[.val (.int k1), .val (.ref h0.size), .val (.int (10 : Int32)), .val (.int (10 : Int32)), .val (.ref a_EXTENDED)] [])
                      refine own_go (fun t k => XS.iloadN X20.here hx rfl (hb hby d1_9) rfl k) ?_
                      show own_G p e below _ T20 (mkF m 10 #[.val (.int k1), .val (.ref h0.size), .val (.int (10 : Int32)), .val (.int (10 : Int32)), .val (.ref a_EXTENDED)] [(.int (10 : Int32))])
                      refine own_go (fun t k => XS.iloadN X20.here hx rfl (hb hby d1_10) rfl k) ?_
                      show own_G p e below _ T20 (mkF m 11 #[.val (.int k1), .val (.ref h0.size), .val (.int (10 : Int32)), .val (.int (10 : Int32)), .val (.ref a_EXTENDED)] [(.int (10 : Int32)), (.int (10 : Int32))])
                      refine own_go (fun t k => XS.icmpYes X20.here hx rfl (pc0 := 11) (pc' := 37) rfl (hb hby d1_11) rfl (by decide) (by decide) (by decide) k) ?_
                      show own_G p e below _ T20 (mkF m 37 #[.val (.int k1), .val (.ref h0.size), .val (.int (10 : Int32)), .val (.int (10 : Int32)), .val (.ref a_EXTENDED)] [])
                      refine own_go (fun t k => XS.aconstNull X20.here hx rfl (hb hby d1_37) k) ?_
                      show own_G p e below _ T20 (mkF m 38 #[.val (.int k1), .val (.ref h0.size), .val (.int (10 : Int32)), .val (.int (10 : Int32)), .val (.ref a_EXTENDED)] [.null])
                      exact own_retA X20 hx hlk hret rfl rfl (hb hby d1_38) (by decide) (by decide) ⟨congrArg some (Eq.symm (show (own_of a_VALUES a_BIND a_UNBIND a_SEARCH a_MODIFY a_ADD a_DELETE a_MODIFY_DN a_COMPARE a_ABANDON a_EXTENDED cl_VALUES k1) = .null from (by unfold own_of; rw [if_neg hc3, if_neg hc5, if_neg hc7, if_neg hc9, if_neg hc11, if_neg hc13, if_neg hc15, if_neg hc17, if_neg hc19, if_neg hc21]))), rfl, (own_ext_eq q1 e20)⟩
def own_exp (a_VALUES a_BIND a_UNBIND a_SEARCH a_MODIFY a_ADD a_DELETE a_MODIFY_DN a_COMPARE a_ABANDON a_EXTENDED : Addr) (cl_VALUES : Cell) (k1 : Int32) : Value := (if k1 = (96 : Int32) then (.ref a_BIND) else (if k1 = (66 : Int32) then (.ref a_UNBIND) else (if k1 = (99 : Int32) then (.ref a_SEARCH) else (if k1 = (102 : Int32) then (.ref a_MODIFY) else (if k1 = (104 : Int32) then (.ref a_ADD) else (if k1 = (74 : Int32) then (.ref a_DELETE) else (if k1 = (108 : Int32) then (.ref a_MODIFY_DN) else (if k1 = (110 : Int32) then (.ref a_COMPARE) else (if k1 = (80 : Int32) then (.ref a_ABANDON) else (if k1 = (119 : Int32) then (.ref a_EXTENDED) else .null))))))))))
theorem d3_0 : decode method_3_code 0 = .ok (.iload_n 0, 1) := by decide +kernel
theorem d3_1 : decode method_3_code 1 = .ok (.bipush 96, 2) := by decide +kernel
theorem d3_3 : decode method_3_code 3 = .ok (.if_icmp .ne 7, 3) := by decide +kernel
theorem d3_6 : decode method_3_code 6 = .ok (.getstatic 18, 3) := by decide +kernel
theorem d3_9 : decode method_3_code 9 = .ok (.areturn, 1) := by decide +kernel
theorem d3_10 : decode method_3_code 10 = .ok (.iload_n 0, 1) := by decide +kernel
theorem d3_11 : decode method_3_code 11 = .ok (.bipush 66, 2) := by decide +kernel
theorem d3_13 : decode method_3_code 13 = .ok (.if_icmp .ne 7, 3) := by decide +kernel
theorem d3_16 : decode method_3_code 16 = .ok (.getstatic 22, 3) := by decide +kernel
theorem d3_19 : decode method_3_code 19 = .ok (.areturn, 1) := by decide +kernel
theorem d3_20 : decode method_3_code 20 = .ok (.iload_n 0, 1) := by decide +kernel
theorem d3_21 : decode method_3_code 21 = .ok (.bipush 99, 2) := by decide +kernel
theorem d3_23 : decode method_3_code 23 = .ok (.if_icmp .ne 7, 3) := by decide +kernel
theorem d3_26 : decode method_3_code 26 = .ok (.getstatic 25, 3) := by decide +kernel
theorem d3_29 : decode method_3_code 29 = .ok (.areturn, 1) := by decide +kernel
theorem d3_30 : decode method_3_code 30 = .ok (.iload_n 0, 1) := by decide +kernel
theorem d3_31 : decode method_3_code 31 = .ok (.bipush 102, 2) := by decide +kernel
theorem d3_33 : decode method_3_code 33 = .ok (.if_icmp .ne 7, 3) := by decide +kernel
theorem d3_36 : decode method_3_code 36 = .ok (.getstatic 28, 3) := by decide +kernel
theorem d3_39 : decode method_3_code 39 = .ok (.areturn, 1) := by decide +kernel
theorem d3_40 : decode method_3_code 40 = .ok (.iload_n 0, 1) := by decide +kernel
theorem d3_41 : decode method_3_code 41 = .ok (.bipush 104, 2) := by decide +kernel
theorem d3_43 : decode method_3_code 43 = .ok (.if_icmp .ne 7, 3) := by decide +kernel
theorem d3_46 : decode method_3_code 46 = .ok (.getstatic 31, 3) := by decide +kernel
theorem d3_49 : decode method_3_code 49 = .ok (.areturn, 1) := by decide +kernel
theorem d3_50 : decode method_3_code 50 = .ok (.iload_n 0, 1) := by decide +kernel
theorem d3_51 : decode method_3_code 51 = .ok (.bipush 74, 2) := by decide +kernel
theorem d3_53 : decode method_3_code 53 = .ok (.if_icmp .ne 7, 3) := by decide +kernel
theorem d3_56 : decode method_3_code 56 = .ok (.getstatic 34, 3) := by decide +kernel
theorem d3_59 : decode method_3_code 59 = .ok (.areturn, 1) := by decide +kernel
theorem d3_60 : decode method_3_code 60 = .ok (.iload_n 0, 1) := by decide +kernel
theorem d3_61 : decode method_3_code 61 = .ok (.bipush 108, 2) := by decide +kernel
theorem d3_63 : decode method_3_code 63 = .ok (.if_icmp .ne 7, 3) := by decide +kernel
theorem d3_66 : decode method_3_code 66 = .ok (.getstatic 37, 3) := by decide +kernel
theorem d3_69 : decode method_3_code 69 = .ok (.areturn, 1) := by decide +kernel
theorem d3_70 : decode method_3_code 70 = .ok (.iload_n 0, 1) := by decide +kernel
theorem d3_71 : decode method_3_code 71 = .ok (.bipush 110, 2) := by decide +kernel
theorem d3_73 : decode method_3_code 73 = .ok (.if_icmp .ne 7, 3) := by decide +kernel
theorem d3_76 : decode method_3_code 76 = .ok (.getstatic 40, 3) := by decide +kernel
theorem d3_79 : decode method_3_code 79 = .ok (.areturn, 1) := by decide +kernel
theorem d3_80 : decode method_3_code 80 = .ok (.iload_n 0, 1) := by decide +kernel
theorem d3_81 : decode method_3_code 81 = .ok (.bipush 80, 2) := by decide +kernel
theorem d3_83 : decode method_3_code 83 = .ok (.if_icmp .ne 7, 3) := by decide +kernel
theorem d3_86 : decode method_3_code 86 = .ok (.getstatic 43, 3) := by decide +kernel
theorem d3_89 : decode method_3_code 89 = .ok (.areturn, 1) := by decide +kernel
theorem d3_90 : decode method_3_code 90 = .ok (.iload_n 0, 1) := by decide +kernel
theorem d3_91 : decode method_3_code 91 = .ok (.bipush 119, 2) := by decide +kernel
theorem d3_93 : decode method_3_code 93 = .ok (.if_icmp .ne 7, 3) := by decide +kernel
theorem d3_96 : decode method_3_code 96 = .ok (.getstatic 46, 3) := by decide +kernel
theorem d3_99 : decode method_3_code 99 = .ok (.areturn, 1) := by decide +kernel
theorem d3_100 : decode method_3_code 100 = .ok (.aconst_null, 1) := by decide +kernel
theorem d3_101 : decode method_3_code 101 = .ok (.areturn, 1) := by decide +kernel
theorem pn_3 : plainFor (⟨"com/example/canonry/canonry/OperationOfRequestTagPinLaw", "expected", "(I)Lcom/example/canonry/canonry/Operation;"⟩ : MethodName) = true := by first | exact plainFor_of_name (by first | (simp [plainName, overriddenIn]; done) | decide +kernel) | decide +kernel
set_option maxRecDepth 65536 in
set_option maxHeartbeats 40000000 in
theorem c_exp (l : Launch) (Z : State) (a0 : Array Value) (hw : ∀ d ∈ tables_1, d.before a0 Z = true) (a_VALUES a_BIND a_UNBIND a_SEARCH a_MODIFY a_ADD a_DELETE a_MODIFY_DN a_COMPARE a_ABANDON a_EXTENDED : Addr) (cl_VALUES : Cell) (k1 : Int32) (h0 : Heap) (B : own_B Z h0 a_VALUES a_BIND a_UNBIND a_SEARCH a_MODIFY a_ADD a_DELETE a_MODIFY_DN a_COMPARE a_ABANDON a_EXTENDED cl_VALUES) :
    own_M l Z (⟨"com/example/canonry/canonry/OperationOfRequestTagPinLaw", "expected", "(I)Lcom/example/canonry/canonry/Operation;"⟩ : MethodName) method_3_code 1 (some (.object "com/example/canonry/canonry/Operation")) ⟨0, 0, 0, 0⟩ #[.int k1] h0 (fun v h L => v = some ((own_exp a_VALUES a_BIND a_UNBIND a_SEARCH a_MODIFY a_ADD a_DELETE a_MODIFY_DN a_COMPARE a_ABANDON a_EXTENDED cl_VALUES k1)) ∧ L = [] ∧ h = h0) := by
  refine own_body pn_3 ?_
  intro p e s m below meth c T0 hx hby hml hlk hown hret hnm hZ X0 e0
  replace hown : s.vm.findClass "com/example/canonry/canonry/OperationOfRequestTagPinLaw" = some m.cls := hown
  replace hml : c.maxLocals = 1 := hml
  obtain ⟨S_VALUES, A_VALUES, G_VALUES, E_VALUES, Z_VALUES, S_BIND, E_BIND, V_VALUES_0, S_UNBIND, E_UNBIND, V_VALUES_1, S_SEARCH, E_SEARCH, V_VALUES_2, S_MODIFY, E_MODIFY, V_VALUES_3, S_ADD, E_ADD, V_VALUES_4, S_DELETE, E_DELETE, V_VALUES_5, S_MODIFY_DN, E_MODIFY_DN, V_VALUES_6, S_COMPARE, E_COMPARE, V_VALUES_7, S_ABANDON, E_ABANDON, V_VALUES_8, S_EXTENDED, E_EXTENDED, V_VALUES_9, F_BIND_requestTag, F_UNBIND_requestTag, F_SEARCH_requestTag, F_MODIFY_requestTag, F_ADD_requestTag, F_DELETE_requestTag, F_MODIFY_DN_requestTag, F_COMPARE_requestTag, F_ABANDON_requestTag, F_EXTENDED_requestTag⟩ := id B
  have ef : entryFrame m #[.int k1] 1 = (mkF m 0 #[.val (.int k1)] []) := by first | (simp [entryFrame, mkF, argsToLocals, Value.category]; done) | rfl
  rw [ef]
  refine own_go (fun t k => XS.iloadN X0.here hx rfl (hb hby d3_0) rfl k) ?_
  show own_G p e below _ T0 (mkF m 1 #[.val (.int k1)] [(.int k1)])
  refine own_go (fun t k => XS.bipush X0.here hx rfl (hb hby d3_1) k) ?_
  show own_G p e below _ T0 (mkF m 3 #[.val (.int k1)] [(.int (96 : Int32)), (.int k1)])
  by_cases hc1 : k1 = (96 : Int32)
  ·
    refine own_go (fun t k => XS.icmpNo X0.here hx rfl (hb hby d3_3) rfl (Jvm.Free.XT.ii_ne_f hc1) k) ?_
    show own_G p e below _ T0 (mkF m 6 #[.val (.int k1)] [])
    obtain ⟨T2, X2, e2, st2⟩ := getS X0 hx hZ hown (host := "") (hw _ (List.mem_of_getElem? (i := 36) rfl)) Via.refl e0 S_BIND (g := (mkF m 6 #[.val (.int k1)] [])) rfl (hb hby d3_6)
    refine own_go st2 ?_
    show own_G p e below _ T2 (mkF m 9 #[.val (.int k1)] [(.ref a_BIND)])
    exact own_retA X2 hx hlk hret rfl rfl (hb hby d3_9) (by decide) (by decide) ⟨congrArg some (Eq.symm (show (own_exp a_VALUES a_BIND a_UNBIND a_SEARCH a_MODIFY a_ADD a_DELETE a_MODIFY_DN a_COMPARE a_ABANDON a_EXTENDED cl_VALUES k1) = (.ref a_BIND) from (by unfold own_exp; rw [if_pos hc1]))), rfl, e2⟩
  ·
    refine own_go (fun t k => XS.icmpYes X0.here hx rfl (pc0 := 3) (pc' := 10) rfl (hb hby d3_3) rfl (Jvm.Free.XT.ii_ne_t hc1) (by decide) (by decide) k) ?_
    show own_G p e below _ T0 (mkF m 10 #[.val (.int k1)] [])
    refine own_go (fun t k => XS.iloadN X0.here hx rfl (hb hby d3_10) rfl k) ?_
    show own_G p e below _ T0 (mkF m 11 #[.val (.int k1)] [(.int k1)])
    refine own_go (fun t k => XS.bipush X0.here hx rfl (hb hby d3_11) k) ?_
    show own_G p e below _ T0 (mkF m 13 #[.val (.int k1)] [(.int (66 : Int32)), (.int k1)])
    by_cases hc3 : k1 = (66 : Int32)
    ·
      refine own_go (fun t k => XS.icmpNo X0.here hx rfl (hb hby d3_13) rfl (Jvm.Free.XT.ii_ne_f hc3) k) ?_
      show own_G p e below _ T0 (mkF m 16 #[.val (.int k1)] [])
      obtain ⟨T4, X4, e4, st4⟩ := getS X0 hx hZ hown (host := "") (hw _ (List.mem_of_getElem? (i := 41) rfl)) Via.refl e0 S_UNBIND (g := (mkF m 16 #[.val (.int k1)] [])) rfl (hb hby d3_16)
      refine own_go st4 ?_
      show own_G p e below _ T4 (mkF m 19 #[.val (.int k1)] [(.ref a_UNBIND)])
      exact own_retA X4 hx hlk hret rfl rfl (hb hby d3_19) (by decide) (by decide) ⟨congrArg some (Eq.symm (show (own_exp a_VALUES a_BIND a_UNBIND a_SEARCH a_MODIFY a_ADD a_DELETE a_MODIFY_DN a_COMPARE a_ABANDON a_EXTENDED cl_VALUES k1) = (.ref a_UNBIND) from (by unfold own_exp; rw [if_neg hc1, if_pos hc3]))), rfl, e4⟩
    ·
      refine own_go (fun t k => XS.icmpYes X0.here hx rfl (pc0 := 13) (pc' := 20) rfl (hb hby d3_13) rfl (Jvm.Free.XT.ii_ne_t hc3) (by decide) (by decide) k) ?_
      show own_G p e below _ T0 (mkF m 20 #[.val (.int k1)] [])
      refine own_go (fun t k => XS.iloadN X0.here hx rfl (hb hby d3_20) rfl k) ?_
      show own_G p e below _ T0 (mkF m 21 #[.val (.int k1)] [(.int k1)])
      refine own_go (fun t k => XS.bipush X0.here hx rfl (hb hby d3_21) k) ?_
      show own_G p e below _ T0 (mkF m 23 #[.val (.int k1)] [(.int (99 : Int32)), (.int k1)])
      by_cases hc5 : k1 = (99 : Int32)
      ·
        refine own_go (fun t k => XS.icmpNo X0.here hx rfl (hb hby d3_23) rfl (Jvm.Free.XT.ii_ne_f hc5) k) ?_
        show own_G p e below _ T0 (mkF m 26 #[.val (.int k1)] [])
        obtain ⟨T6, X6, e6, st6⟩ := getS X0 hx hZ hown (host := "") (hw _ (List.mem_of_getElem? (i := 38) rfl)) Via.refl e0 S_SEARCH (g := (mkF m 26 #[.val (.int k1)] [])) rfl (hb hby d3_26)
        refine own_go st6 ?_
        show own_G p e below _ T6 (mkF m 29 #[.val (.int k1)] [(.ref a_SEARCH)])
        exact own_retA X6 hx hlk hret rfl rfl (hb hby d3_29) (by decide) (by decide) ⟨congrArg some (Eq.symm (show (own_exp a_VALUES a_BIND a_UNBIND a_SEARCH a_MODIFY a_ADD a_DELETE a_MODIFY_DN a_COMPARE a_ABANDON a_EXTENDED cl_VALUES k1) = (.ref a_SEARCH) from (by unfold own_exp; rw [if_neg hc1, if_neg hc3, if_pos hc5]))), rfl, e6⟩
      ·
        refine own_go (fun t k => XS.icmpYes X0.here hx rfl (pc0 := 23) (pc' := 30) rfl (hb hby d3_23) rfl (Jvm.Free.XT.ii_ne_t hc5) (by decide) (by decide) k) ?_
        show own_G p e below _ T0 (mkF m 30 #[.val (.int k1)] [])
        refine own_go (fun t k => XS.iloadN X0.here hx rfl (hb hby d3_30) rfl k) ?_
        show own_G p e below _ T0 (mkF m 31 #[.val (.int k1)] [(.int k1)])
        refine own_go (fun t k => XS.bipush X0.here hx rfl (hb hby d3_31) k) ?_
        show own_G p e below _ T0 (mkF m 33 #[.val (.int k1)] [(.int (102 : Int32)), (.int k1)])
        by_cases hc7 : k1 = (102 : Int32)
        ·
          refine own_go (fun t k => XS.icmpNo X0.here hx rfl (hb hby d3_33) rfl (Jvm.Free.XT.ii_ne_f hc7) k) ?_
          show own_G p e below _ T0 (mkF m 36 #[.val (.int k1)] [])
          obtain ⟨T8, X8, e8, st8⟩ := getS X0 hx hZ hown (host := "") (hw _ (List.mem_of_getElem? (i := 40) rfl)) Via.refl e0 S_MODIFY (g := (mkF m 36 #[.val (.int k1)] [])) rfl (hb hby d3_36)
          refine own_go st8 ?_
          show own_G p e below _ T8 (mkF m 39 #[.val (.int k1)] [(.ref a_MODIFY)])
          exact own_retA X8 hx hlk hret rfl rfl (hb hby d3_39) (by decide) (by decide) ⟨congrArg some (Eq.symm (show (own_exp a_VALUES a_BIND a_UNBIND a_SEARCH a_MODIFY a_ADD a_DELETE a_MODIFY_DN a_COMPARE a_ABANDON a_EXTENDED cl_VALUES k1) = (.ref a_MODIFY) from (by unfold own_exp; rw [if_neg hc1, if_neg hc3, if_neg hc5, if_pos hc7]))), rfl, e8⟩
        ·
          refine own_go (fun t k => XS.icmpYes X0.here hx rfl (pc0 := 33) (pc' := 40) rfl (hb hby d3_33) rfl (Jvm.Free.XT.ii_ne_t hc7) (by decide) (by decide) k) ?_
          show own_G p e below _ T0 (mkF m 40 #[.val (.int k1)] [])
          refine own_go (fun t k => XS.iloadN X0.here hx rfl (hb hby d3_40) rfl k) ?_
          show own_G p e below _ T0 (mkF m 41 #[.val (.int k1)] [(.int k1)])
          refine own_go (fun t k => XS.bipush X0.here hx rfl (hb hby d3_41) k) ?_
          show own_G p e below _ T0 (mkF m 43 #[.val (.int k1)] [(.int (104 : Int32)), (.int k1)])
          by_cases hc9 : k1 = (104 : Int32)
          ·
            refine own_go (fun t k => XS.icmpNo X0.here hx rfl (hb hby d3_43) rfl (Jvm.Free.XT.ii_ne_f hc9) k) ?_
            show own_G p e below _ T0 (mkF m 46 #[.val (.int k1)] [])
            obtain ⟨T10, X10, e10, st10⟩ := getS X0 hx hZ hown (host := "") (hw _ (List.mem_of_getElem? (i := 43) rfl)) Via.refl e0 S_ADD (g := (mkF m 46 #[.val (.int k1)] [])) rfl (hb hby d3_46)
            refine own_go st10 ?_
            show own_G p e below _ T10 (mkF m 49 #[.val (.int k1)] [(.ref a_ADD)])
            exact own_retA X10 hx hlk hret rfl rfl (hb hby d3_49) (by decide) (by decide) ⟨congrArg some (Eq.symm (show (own_exp a_VALUES a_BIND a_UNBIND a_SEARCH a_MODIFY a_ADD a_DELETE a_MODIFY_DN a_COMPARE a_ABANDON a_EXTENDED cl_VALUES k1) = (.ref a_ADD) from (by unfold own_exp; rw [if_neg hc1, if_neg hc3, if_neg hc5, if_neg hc7, if_pos hc9]))), rfl, e10⟩
          ·
            refine own_go (fun t k => XS.icmpYes X0.here hx rfl (pc0 := 43) (pc' := 50) rfl (hb hby d3_43) rfl (Jvm.Free.XT.ii_ne_t hc9) (by decide) (by decide) k) ?_
            show own_G p e below _ T0 (mkF m 50 #[.val (.int k1)] [])
            refine own_go (fun t k => XS.iloadN X0.here hx rfl (hb hby d3_50) rfl k) ?_
            show own_G p e below _ T0 (mkF m 51 #[.val (.int k1)] [(.int k1)])
            refine own_go (fun t k => XS.bipush X0.here hx rfl (hb hby d3_51) k) ?_
            show own_G p e below _ T0 (mkF m 53 #[.val (.int k1)] [(.int (74 : Int32)), (.int k1)])
            by_cases hc11 : k1 = (74 : Int32)
            ·
              refine own_go (fun t k => XS.icmpNo X0.here hx rfl (hb hby d3_53) rfl (Jvm.Free.XT.ii_ne_f hc11) k) ?_
              show own_G p e below _ T0 (mkF m 56 #[.val (.int k1)] [])
              obtain ⟨T12, X12, e12, st12⟩ := getS X0 hx hZ hown (host := "") (hw _ (List.mem_of_getElem? (i := 44) rfl)) Via.refl e0 S_DELETE (g := (mkF m 56 #[.val (.int k1)] [])) rfl (hb hby d3_56)
              refine own_go st12 ?_
              show own_G p e below _ T12 (mkF m 59 #[.val (.int k1)] [(.ref a_DELETE)])
              exact own_retA X12 hx hlk hret rfl rfl (hb hby d3_59) (by decide) (by decide) ⟨congrArg some (Eq.symm (show (own_exp a_VALUES a_BIND a_UNBIND a_SEARCH a_MODIFY a_ADD a_DELETE a_MODIFY_DN a_COMPARE a_ABANDON a_EXTENDED cl_VALUES k1) = (.ref a_DELETE) from (by unfold own_exp; rw [if_neg hc1, if_neg hc3, if_neg hc5, if_neg hc7, if_neg hc9, if_pos hc11]))), rfl, e12⟩
            ·
              refine own_go (fun t k => XS.icmpYes X0.here hx rfl (pc0 := 53) (pc' := 60) rfl (hb hby d3_53) rfl (Jvm.Free.XT.ii_ne_t hc11) (by decide) (by decide) k) ?_
              show own_G p e below _ T0 (mkF m 60 #[.val (.int k1)] [])
              refine own_go (fun t k => XS.iloadN X0.here hx rfl (hb hby d3_60) rfl k) ?_
              show own_G p e below _ T0 (mkF m 61 #[.val (.int k1)] [(.int k1)])
              refine own_go (fun t k => XS.bipush X0.here hx rfl (hb hby d3_61) k) ?_
              show own_G p e below _ T0 (mkF m 63 #[.val (.int k1)] [(.int (108 : Int32)), (.int k1)])
              by_cases hc13 : k1 = (108 : Int32)
              ·
                refine own_go (fun t k => XS.icmpNo X0.here hx rfl (hb hby d3_63) rfl (Jvm.Free.XT.ii_ne_f hc13) k) ?_
                show own_G p e below _ T0 (mkF m 66 #[.val (.int k1)] [])
                obtain ⟨T14, X14, e14, st14⟩ := getS X0 hx hZ hown (host := "") (hw _ (List.mem_of_getElem? (i := 39) rfl)) Via.refl e0 S_MODIFY_DN (g := (mkF m 66 #[.val (.int k1)] [])) rfl (hb hby d3_66)
                refine own_go st14 ?_
                show own_G p e below _ T14 (mkF m 69 #[.val (.int k1)] [(.ref a_MODIFY_DN)])
                exact own_retA X14 hx hlk hret rfl rfl (hb hby d3_69) (by decide) (by decide) ⟨congrArg some (Eq.symm (show (own_exp a_VALUES a_BIND a_UNBIND a_SEARCH a_MODIFY a_ADD a_DELETE a_MODIFY_DN a_COMPARE a_ABANDON a_EXTENDED cl_VALUES k1) = (.ref a_MODIFY_DN) from (by unfold own_exp; rw [if_neg hc1, if_neg hc3, if_neg hc5, if_neg hc7, if_neg hc9, if_neg hc11, if_pos hc13]))), rfl, e14⟩
              ·
                refine own_go (fun t k => XS.icmpYes X0.here hx rfl (pc0 := 63) (pc' := 70) rfl (hb hby d3_63) rfl (Jvm.Free.XT.ii_ne_t hc13) (by decide) (by decide) k) ?_
                show own_G p e below _ T0 (mkF m 70 #[.val (.int k1)] [])
                refine own_go (fun t k => XS.iloadN X0.here hx rfl (hb hby d3_70) rfl k) ?_
                show own_G p e below _ T0 (mkF m 71 #[.val (.int k1)] [(.int k1)])
                refine own_go (fun t k => XS.bipush X0.here hx rfl (hb hby d3_71) k) ?_
                show own_G p e below _ T0 (mkF m 73 #[.val (.int k1)] [(.int (110 : Int32)), (.int k1)])
                by_cases hc15 : k1 = (110 : Int32)
                ·
                  refine own_go (fun t k => XS.icmpNo X0.here hx rfl (hb hby d3_73) rfl (Jvm.Free.XT.ii_ne_f hc15) k) ?_
                  show own_G p e below _ T0 (mkF m 76 #[.val (.int k1)] [])
                  obtain ⟨T16, X16, e16, st16⟩ := getS X0 hx hZ hown (host := "") (hw _ (List.mem_of_getElem? (i := 42) rfl)) Via.refl e0 S_COMPARE (g := (mkF m 76 #[.val (.int k1)] [])) rfl (hb hby d3_76)
                  refine own_go st16 ?_
                  show own_G p e below _ T16 (mkF m 79 #[.val (.int k1)] [(.ref a_COMPARE)])
                  exact own_retA X16 hx hlk hret rfl rfl (hb hby d3_79) (by decide) (by decide) ⟨congrArg some (Eq.symm (show (own_exp a_VALUES a_BIND a_UNBIND a_SEARCH a_MODIFY a_ADD a_DELETE a_MODIFY_DN a_COMPARE a_ABANDON a_EXTENDED cl_VALUES k1) = (.ref a_COMPARE) from (by unfold own_exp; rw [if_neg hc1, if_neg hc3, if_neg hc5, if_neg hc7, if_neg hc9, if_neg hc11, if_neg hc13, if_pos hc15]))), rfl, e16⟩
                ·
                  refine own_go (fun t k => XS.icmpYes X0.here hx rfl (pc0 := 73) (pc' := 80) rfl (hb hby d3_73) rfl (Jvm.Free.XT.ii_ne_t hc15) (by decide) (by decide) k) ?_
                  show own_G p e below _ T0 (mkF m 80 #[.val (.int k1)] [])
                  refine own_go (fun t k => XS.iloadN X0.here hx rfl (hb hby d3_80) rfl k) ?_
                  show own_G p e below _ T0 (mkF m 81 #[.val (.int k1)] [(.int k1)])
                  refine own_go (fun t k => XS.bipush X0.here hx rfl (hb hby d3_81) k) ?_
                  show own_G p e below _ T0 (mkF m 83 #[.val (.int k1)] [(.int (80 : Int32)), (.int k1)])
                  by_cases hc17 : k1 = (80 : Int32)
                  ·
                    refine own_go (fun t k => XS.icmpNo X0.here hx rfl (hb hby d3_83) rfl (Jvm.Free.XT.ii_ne_f hc17) k) ?_
                    show own_G p e below _ T0 (mkF m 86 #[.val (.int k1)] [])
                    obtain ⟨T18, X18, e18, st18⟩ := getS X0 hx hZ hown (host := "") (hw _ (List.mem_of_getElem? (i := 45) rfl)) Via.refl e0 S_ABANDON (g := (mkF m 86 #[.val (.int k1)] [])) rfl (hb hby d3_86)
                    refine own_go st18 ?_
                    show own_G p e below _ T18 (mkF m 89 #[.val (.int k1)] [(.ref a_ABANDON)])
                    exact own_retA X18 hx hlk hret rfl rfl (hb hby d3_89) (by decide) (by decide) ⟨congrArg some (Eq.symm (show (own_exp a_VALUES a_BIND a_UNBIND a_SEARCH a_MODIFY a_ADD a_DELETE a_MODIFY_DN a_COMPARE a_ABANDON a_EXTENDED cl_VALUES k1) = (.ref a_ABANDON) from (by unfold own_exp; rw [if_neg hc1, if_neg hc3, if_neg hc5, if_neg hc7, if_neg hc9, if_neg hc11, if_neg hc13, if_neg hc15, if_pos hc17]))), rfl, e18⟩
                  ·
                    refine own_go (fun t k => XS.icmpYes X0.here hx rfl (pc0 := 83) (pc' := 90) rfl (hb hby d3_83) rfl (Jvm.Free.XT.ii_ne_t hc17) (by decide) (by decide) k) ?_
                    show own_G p e below _ T0 (mkF m 90 #[.val (.int k1)] [])
                    refine own_go (fun t k => XS.iloadN X0.here hx rfl (hb hby d3_90) rfl k) ?_
                    show own_G p e below _ T0 (mkF m 91 #[.val (.int k1)] [(.int k1)])
                    refine own_go (fun t k => XS.bipush X0.here hx rfl (hb hby d3_91) k) ?_
                    show own_G p e below _ T0 (mkF m 93 #[.val (.int k1)] [(.int (119 : Int32)), (.int k1)])
                    by_cases hc19 : k1 = (119 : Int32)
                    ·
                      refine own_go (fun t k => XS.icmpNo X0.here hx rfl (hb hby d3_93) rfl (Jvm.Free.XT.ii_ne_f hc19) k) ?_
                      show own_G p e below _ T0 (mkF m 96 #[.val (.int k1)] [])
                      obtain ⟨T20, X20, e20, st20⟩ := getS X0 hx hZ hown (host := "") (hw _ (List.mem_of_getElem? (i := 37) rfl)) Via.refl e0 S_EXTENDED (g := (mkF m 96 #[.val (.int k1)] [])) rfl (hb hby d3_96)
                      refine own_go st20 ?_
                      show own_G p e below _ T20 (mkF m 99 #[.val (.int k1)] [(.ref a_EXTENDED)])
                      exact own_retA X20 hx hlk hret rfl rfl (hb hby d3_99) (by decide) (by decide) ⟨congrArg some (Eq.symm (show (own_exp a_VALUES a_BIND a_UNBIND a_SEARCH a_MODIFY a_ADD a_DELETE a_MODIFY_DN a_COMPARE a_ABANDON a_EXTENDED cl_VALUES k1) = (.ref a_EXTENDED) from (by unfold own_exp; rw [if_neg hc1, if_neg hc3, if_neg hc5, if_neg hc7, if_neg hc9, if_neg hc11, if_neg hc13, if_neg hc15, if_neg hc17, if_pos hc19]))), rfl, e20⟩
                    ·
                      refine own_go (fun t k => XS.icmpYes X0.here hx rfl (pc0 := 93) (pc' := 100) rfl (hb hby d3_93) rfl (Jvm.Free.XT.ii_ne_t hc19) (by decide) (by decide) k) ?_
                      show own_G p e below _ T0 (mkF m 100 #[.val (.int k1)] [])
                      refine own_go (fun t k => XS.aconstNull X0.here hx rfl (hb hby d3_100) k) ?_
                      show own_G p e below _ T0 (mkF m 101 #[.val (.int k1)] [.null])
                      exact own_retA X0 hx hlk hret rfl rfl (hb hby d3_101) (by decide) (by decide) ⟨congrArg some (Eq.symm (show (own_exp a_VALUES a_BIND a_UNBIND a_SEARCH a_MODIFY a_ADD a_DELETE a_MODIFY_DN a_COMPARE a_ABANDON a_EXTENDED cl_VALUES k1) = .null from (by unfold own_exp; rw [if_neg hc1, if_neg hc3, if_neg hc5, if_neg hc7, if_neg hc9, if_neg hc11, if_neg hc13, if_neg hc15, if_neg hc17, if_neg hc19]))), rfl, e0⟩
theorem own_of_ref (a_VALUES a_BIND a_UNBIND a_SEARCH a_MODIFY a_ADD a_DELETE a_MODIFY_DN a_COMPARE a_ABANDON a_EXTENDED : Addr) (cl_VALUES : Cell) (k : Int32) : (own_of a_VALUES a_BIND a_UNBIND a_SEARCH a_MODIFY a_ADD a_DELETE a_MODIFY_DN a_COMPARE a_ABANDON a_EXTENDED cl_VALUES k).isRef = true := by
  unfold own_of
  repeat' split
  all_goals rfl
theorem own_exp_ref (a_VALUES a_BIND a_UNBIND a_SEARCH a_MODIFY a_ADD a_DELETE a_MODIFY_DN a_COMPARE a_ABANDON a_EXTENDED : Addr) (cl_VALUES : Cell) (k : Int32) : (own_exp a_VALUES a_BIND a_UNBIND a_SEARCH a_MODIFY a_ADD a_DELETE a_MODIFY_DN a_COMPARE a_ABANDON a_EXTENDED cl_VALUES k).isRef = true := by
  unfold own_exp
  repeat' split
  all_goals rfl
theorem own_same (a_VALUES a_BIND a_UNBIND a_SEARCH a_MODIFY a_ADD a_DELETE a_MODIFY_DN a_COMPARE a_ABANDON a_EXTENDED : Addr) (cl_VALUES : Cell) (k : Int32) : own_of a_VALUES a_BIND a_UNBIND a_SEARCH a_MODIFY a_ADD a_DELETE a_MODIFY_DN a_COMPARE a_ABANDON a_EXTENDED cl_VALUES k = own_exp a_VALUES a_BIND a_UNBIND a_SEARCH a_MODIFY a_ADD a_DELETE a_MODIFY_DN a_COMPARE a_ABANDON a_EXTENDED cl_VALUES k := by
  by_cases h0 : k = (96 : Int32)
  · subst h0; rfl
  have g0 : ¬ (96 : Int32) = k := fun q => h0 q.symm
  by_cases h1 : k = (66 : Int32)
  · subst h1; rfl
  have g1 : ¬ (66 : Int32) = k := fun q => h1 q.symm
  by_cases h2 : k = (99 : Int32)
  · subst h2; rfl
  have g2 : ¬ (99 : Int32) = k := fun q => h2 q.symm
  by_cases h3 : k = (102 : Int32)
  · subst h3; rfl
  have g3 : ¬ (102 : Int32) = k := fun q => h3 q.symm
  by_cases h4 : k = (104 : Int32)
  · subst h4; rfl
  have g4 : ¬ (104 : Int32) = k := fun q => h4 q.symm
  by_cases h5 : k = (74 : Int32)
  · subst h5; rfl
  have g5 : ¬ (74 : Int32) = k := fun q => h5 q.symm
  by_cases h6 : k = (108 : Int32)
  · subst h6; rfl
  have g6 : ¬ (108 : Int32) = k := fun q => h6 q.symm
  by_cases h7 : k = (110 : Int32)
  · subst h7; rfl
  have g7 : ¬ (110 : Int32) = k := fun q => h7 q.symm
  by_cases h8 : k = (80 : Int32)
  · subst h8; rfl
  have g8 : ¬ (80 : Int32) = k := fun q => h8 q.symm
  by_cases h9 : k = (119 : Int32)
  · subst h9; rfl
  have g9 : ¬ (119 : Int32) = k := fun q => h9 q.symm
  unfold own_of own_exp
  rw [if_neg g0, if_neg g1, if_neg g2, if_neg g3, if_neg g4, if_neg g5, if_neg g6, if_neg g7, if_neg g8, if_neg g9, if_neg h0, if_neg h1, if_neg h2, if_neg h3, if_neg h4, if_neg h5, if_neg h6, if_neg h7, if_neg h8, if_neg h9]
theorem own_ush (x : Int32) : 0 ≤ (Jvm.Free.XT.ushr x 1).toInt := by
  unfold Jvm.Free.XT.ushr
  have h1 : (1 &&& 31 : Int32).toUInt32 = 1 := by decide
  rw [h1]
  have h2 : (x.toUInt32 >>> 1).toNat < 2 ^ 31 := by
    have := x.toUInt32.toNat_lt
    simp [UInt32.toNat_shiftRight, Nat.shiftRight_eq_div_pow]
    omega
  generalize x.toUInt32 >>> 1 = u at h2
  have h3 : u.toInt32.toInt = (u.toNat : Int) := by
    exact BitVec.toInt_eq_toNat_of_lt (x := u.toBitVec) (by show 2 * u.toNat < _; omega)
  omega
theorem pn_0 : plainFor x = true := by first | exact plainFor_of_name (by first | (simp [plainName, overriddenIn]; done) | decide +kernel) | decide +kernel
set_option maxRecDepth 65536 in
set_option maxHeartbeats 40000000 in
theorem rm0 (l : Launch) (Z : State) (a0 : Array Value) (hw : ∀ d ∈ tables_1, d.before a0 Z = true) (i0 i1 : Int32) (a_VALUES a_BIND a_UNBIND a_SEARCH a_MODIFY a_ADD a_DELETE a_MODIFY_DN a_COMPARE a_ABANDON a_EXTENDED : Addr) (cl_VALUES : Cell) (h0 : Heap) (n0 : Nat) (Z0 : n0 ≤ h0.size) (B : own_B Z h0 a_VALUES a_BIND a_UNBIND a_SEARCH a_MODIFY a_ADD a_DELETE a_MODIFY_DN a_COMPARE a_ABANDON a_EXTENDED cl_VALUES) :
    own_M l Z x code maxLocals ret room_1 #[.int i0, .int i1] h0 (fun v h L => v = some (.int 1) ∧ Fr n0 L) := by
  refine own_body pn_0 ?_
  intro p e s m below meth c T0 hx hby hml hlk hown hret hnm hZ X0 e0
  replace hown : s.vm.findClass "com/example/canonry/canonry/OperationOfRequestTagPinLaw" = some m.cls := hown
  replace hml : c.maxLocals = 7 := hml
  replace hret : meth.sig.returnType = some .boolean := hret
  obtain ⟨S_VALUES, A_VALUES, G_VALUES, E_VALUES, Z_VALUES, S_BIND, E_BIND, V_VALUES_0, S_UNBIND, E_UNBIND, V_VALUES_1, S_SEARCH, E_SEARCH, V_VALUES_2, S_MODIFY, E_MODIFY, V_VALUES_3, S_ADD, E_ADD, V_VALUES_4, S_DELETE, E_DELETE, V_VALUES_5, S_MODIFY_DN, E_MODIFY_DN, V_VALUES_6, S_COMPARE, E_COMPARE, V_VALUES_7, S_ABANDON, E_ABANDON, V_VALUES_8, S_EXTENDED, E_EXTENDED, V_VALUES_9, F_BIND_requestTag, F_UNBIND_requestTag, F_SEARCH_requestTag, F_MODIFY_requestTag, F_ADD_requestTag, F_DELETE_requestTag, F_MODIFY_DN_requestTag, F_COMPARE_requestTag, F_ABANDON_requestTag, F_EXTENDED_requestTag⟩ := id B
  have hk := own_l10 ((Jvm.Free.XT.ushr i1 (1 : Int32)) % (10 : Int32)) (own_rem _ 10 (own_ush i1) (by decide)).1 (Int.lt_add_one_iff.mp (own_rem _ 10 (own_ush i1) (by decide)).2)
  have N0 := Fr.nil n0
  have ef : entryFrame m #[.int i0, .int i1] maxLocals = (mkF m 0 #[.val (.int i0), .val (.int i1), .unset, .unset, .unset, .unset, .unset] []) := by first | (simp [entryFrame, mkF, argsToLocals, Value.category, maxLocals]; done) | rfl
  rw [ef]
  refine own_go (fun t k => XS.iloadN X0.here hx rfl (hb hby at_0) rfl k) ?_
  show own_G p e below _ T0 (mkF m 1 #[.val (.int i0), .val (.int i1), .unset, .unset, .unset, .unset, .unset] [(.int i1)])
  refine own_go (fun t k => XS.iconst X0.here hx rfl (hb hby at_1) k) ?_
  show own_G p e below _ T0 (mkF m 2 #[.val (.int i0), .val (.int i1), .unset, .unset, .unset, .unset, .unset] [(.int (1 : Int32)), (.int i1)])
  refine own_go (fun t k => XS.iand X0.here hx rfl (hb hby at_2) rfl k) ?_
  show own_G p e below _ T0 (mkF m 3 #[.val (.int i0), .val (.int i1), .unset, .unset, .unset, .unset, .unset] [(.int (i1 &&& (1 : Int32)))])
  by_cases hc1 : (i1 &&& (1 : Int32)) = (0 : Int32)
  ·
    refine own_go (fun t k => XS.ifYes X0.here hx rfl (pc0 := 3) (pc' := 99) rfl (hb hby at_3) rfl (Jvm.Free.XT.i0_eq_t hc1) (by decide) (by decide) k) ?_
    show own_G p e below _ T0 (mkF m 99 #[.val (.int i0), .val (.int i1), .unset, .unset, .unset, .unset, .unset] [])
    refine own_go (fun t k => XS.iloadN X0.here hx rfl (hb hby at_99) rfl k) ?_
    show own_G p e below _ T0 (mkF m 100 #[.val (.int i0), .val (.int i1), .unset, .unset, .unset, .unset, .unset] [(.int i0)])
    refine own_go (fun t k => XS.istoreN X0.here hx rfl (hb hby at_100) rfl (l' := #[.val (.int i0), .val (.int i1), .val (.int i0), .unset, .unset, .unset, .unset]) rfl k) ?_
    show own_G p e below _ T0 (mkF m 101 #[.val (.int i0), .val (.int i1), .val (.int i0), .unset, .unset, .unset, .unset] [])
    refine own_go (fun t k => XS.iloadN X0.here hx rfl (hb hby at_101) rfl k) ?_
    show own_G p e below _ T0 (mkF m 102 #[.val (.int i0), .val (.int i1), .val (.int i0), .unset, .unset, .unset, .unset] [(.int i0)])
    obtain ⟨T2, L2, v2, X2, ⟨rfl, rfl, q2⟩, st2⟩ := own_callS X0 hx hZ (y := (⟨"com/example/canonry/canonry/Operation", "ofRequestTag", "(I)Lcom/example/canonry/canonry/Operation;"⟩ : MethodName)) hown (hw _ (List.mem_of_getElem? (i := 1) rfl)) (hw _ (List.mem_of_getElem? (i := 2) rfl)) (hw _ (List.mem_of_getElem? (i := 3) rfl)) (hw _ (List.mem_of_getElem? (i := 4) rfl)) (by decide) (c_of l Z a0 hw a_VALUES a_BIND a_UNBIND a_SEARCH a_MODIFY a_ADD a_DELETE a_MODIFY_DN a_COMPARE a_ABANDON a_EXTENDED cl_VALUES i0 h0 B ) e0 (argsL := [(.int i0)]) (rest := []) (g := (mkF m 102 #[.val (.int i0), .val (.int i1), .val (.int i0), .unset, .unset, .unset, .unset] [(.int i0)])) rfl (by rw [hml]; rfl) (ps := [.int]) (r := (some (.object "com/example/canonry/canonry/Operation"))) (by decide +kernel) rfl rfl (W := 0) (by show 2 * 0 + _ ≤ _; exact Nat.le_of_eq rfl) (hb hby at_102) (by decide) (by decide) (by decide) (by decide)
    have N2 := Fr.app N0 (Fr.nil n0)
    refine own_go st2 ?_
    show own_G p e below _ T2 (mkF m 105 #[.val (.int i0), .val (.int i1), .val (.int i0), .unset, .unset, .unset, .unset] [(own_of a_VALUES a_BIND a_UNBIND a_SEARCH a_MODIFY a_ADD a_DELETE a_MODIFY_DN a_COMPARE a_ABANDON a_EXTENDED cl_VALUES i0)])
    refine own_go (fun t k => XS.astoreN X2.here hx rfl (hb hby at_105) rfl (own_of_ref a_VALUES a_BIND a_UNBIND a_SEARCH a_MODIFY a_ADD a_DELETE a_MODIFY_DN a_COMPARE a_ABANDON a_EXTENDED cl_VALUES i0) (l' := #[.val (.int i0), .val (.int i1), .val (.int i0), .val (own_of a_VALUES a_BIND a_UNBIND a_SEARCH a_MODIFY a_ADD a_DELETE a_MODIFY_DN a_COMPARE a_ABANDON a_EXTENDED cl_VALUES i0), .unset, .unset, .unset]) (XS.store1 (o := .unset) rfl (Or.inl rfl) (own_cat (own_of_ref a_VALUES a_BIND a_UNBIND a_SEARCH a_MODIFY a_ADD a_DELETE a_MODIFY_DN a_COMPARE a_ABANDON a_EXTENDED cl_VALUES i0))) k) ?_
    show own_G p e below _ T2 (mkF m 106 #[.val (.int i0), .val (.int i1), .val (.int i0), .val (own_of a_VALUES a_BIND a_UNBIND a_SEARCH a_MODIFY a_ADD a_DELETE a_MODIFY_DN a_COMPARE a_ABANDON a_EXTENDED cl_VALUES i0), .unset, .unset, .unset] [])
    refine own_go (fun t k => XS.aloadN X2.here hx rfl (hb hby at_106) rfl (own_of_ref a_VALUES a_BIND a_UNBIND a_SEARCH a_MODIFY a_ADD a_DELETE a_MODIFY_DN a_COMPARE a_ABANDON a_EXTENDED cl_VALUES i0) k) ?_
    show own_G p e below _ T2 (mkF m 107 #[.val (.int i0), .val (.int i1), .val (.int i0), .val (own_of a_VALUES a_BIND a_UNBIND a_SEARCH a_MODIFY a_ADD a_DELETE a_MODIFY_DN a_COMPARE a_ABANDON a_EXTENDED cl_VALUES i0), .unset, .unset, .unset] [(own_of a_VALUES a_BIND a_UNBIND a_SEARCH a_MODIFY a_ADD a_DELETE a_MODIFY_DN a_COMPARE a_ABANDON a_EXTENDED cl_VALUES i0)])
    refine own_go (fun t k => XS.iloadN X2.here hx rfl (hb hby at_107) rfl k) ?_
    show own_G p e below _ T2 (mkF m 108 #[.val (.int i0), .val (.int i1), .val (.int i0), .val (own_of a_VALUES a_BIND a_UNBIND a_SEARCH a_MODIFY a_ADD a_DELETE a_MODIFY_DN a_COMPARE a_ABANDON a_EXTENDED cl_VALUES i0), .unset, .unset, .unset] [(.int i0), (own_of a_VALUES a_BIND a_UNBIND a_SEARCH a_MODIFY a_ADD a_DELETE a_MODIFY_DN a_COMPARE a_ABANDON a_EXTENDED cl_VALUES i0)])
    obtain ⟨T3, L3, v3, X3, ⟨rfl, rfl, q3⟩, st3⟩ := own_callS X2 hx hZ (y := (⟨"com/example/canonry/canonry/OperationOfRequestTagPinLaw", "expected", "(I)Lcom/example/canonry/canonry/Operation;"⟩ : MethodName)) hown (hw _ (List.mem_of_getElem? (i := 32) rfl)) (hw _ (List.mem_of_getElem? (i := 33) rfl)) (hw _ (List.mem_of_getElem? (i := 34) rfl)) (hw _ (List.mem_of_getElem? (i := 35) rfl)) (by decide) (c_exp l Z a0 hw a_VALUES a_BIND a_UNBIND a_SEARCH a_MODIFY a_ADD a_DELETE a_MODIFY_DN a_COMPARE a_ABANDON a_EXTENDED cl_VALUES i0 T2.heap (own_B_ext q2 B) ) rfl (argsL := [(.int i0)]) (rest := [(own_of a_VALUES a_BIND a_UNBIND a_SEARCH a_MODIFY a_ADD a_DELETE a_MODIFY_DN a_COMPARE a_ABANDON a_EXTENDED cl_VALUES i0)]) (g := (mkF m 108 #[.val (.int i0), .val (.int i1), .val (.int i0), .val (own_of a_VALUES a_BIND a_UNBIND a_SEARCH a_MODIFY a_ADD a_DELETE a_MODIFY_DN a_COMPARE a_ABANDON a_EXTENDED cl_VALUES i0), .unset, .unset, .unset] [(.int i0), (own_of a_VALUES a_BIND a_UNBIND a_SEARCH a_MODIFY a_ADD a_DELETE a_MODIFY_DN a_COMPARE a_ABANDON a_EXTENDED cl_VALUES i0)])) rfl (by rw [hml]; rfl) (ps := [.int]) (r := (some (.object "com/example/canonry/canonry/Operation"))) (by decide +kernel) rfl rfl (W := 1) (by show 2 * 0 + _ ≤ _; simp [own_cat (own_of_ref a_VALUES a_BIND a_UNBIND a_SEARCH a_MODIFY a_ADD a_DELETE a_MODIFY_DN a_COMPARE a_ABANDON a_EXTENDED cl_VALUES i0)]) (hb hby at_108) (by decide) (by decide) (by decide) (by decide)
    have N3 := Fr.app N2 (Fr.nil n0)
    refine own_go st3 ?_
    show own_G p e below _ T3 (mkF m 111 #[.val (.int i0), .val (.int i1), .val (.int i0), .val (own_of a_VALUES a_BIND a_UNBIND a_SEARCH a_MODIFY a_ADD a_DELETE a_MODIFY_DN a_COMPARE a_ABANDON a_EXTENDED cl_VALUES i0), .unset, .unset, .unset] [(own_exp a_VALUES a_BIND a_UNBIND a_SEARCH a_MODIFY a_ADD a_DELETE a_MODIFY_DN a_COMPARE a_ABANDON a_EXTENDED cl_VALUES i0), (own_of a_VALUES a_BIND a_UNBIND a_SEARCH a_MODIFY a_ADD a_DELETE a_MODIFY_DN a_COMPARE a_ABANDON a_EXTENDED cl_VALUES i0)])
    refine own_go (fun t k => Jvm.Free.XT.acmpNo X3.here hx rfl (hb hby at_111) rfl (own_of_ref a_VALUES a_BIND a_UNBIND a_SEARCH a_MODIFY a_ADD a_DELETE a_MODIFY_DN a_COMPARE a_ABANDON a_EXTENDED cl_VALUES i0) (own_exp_ref a_VALUES a_BIND a_UNBIND a_SEARCH a_MODIFY a_ADD a_DELETE a_MODIFY_DN a_COMPARE a_ABANDON a_EXTENDED cl_VALUES i0) (own_acVF (own_same a_VALUES a_BIND a_UNBIND a_SEARCH a_MODIFY a_ADD a_DELETE a_MODIFY_DN a_COMPARE a_ABANDON a_EXTENDED cl_VALUES i0)) k) ?_
    show own_G p e below _ T3 (mkF m 114 #[.val (.int i0), .val (.int i1), .val (.int i0), .val (own_of a_VALUES a_BIND a_UNBIND a_SEARCH a_MODIFY a_ADD a_DELETE a_MODIFY_DN a_COMPARE a_ABANDON a_EXTENDED cl_VALUES i0), .unset, .unset, .unset] [])
    refine own_go (fun t k => XS.iconst X3.here hx rfl (hb hby at_114) k) ?_
    show own_G p e below _ T3 (mkF m 115 #[.val (.int i0), .val (.int i1), .val (.int i0), .val (own_of a_VALUES a_BIND a_UNBIND a_SEARCH a_MODIFY a_ADD a_DELETE a_MODIFY_DN a_COMPARE a_ABANDON a_EXTENDED cl_VALUES i0), .unset, .unset, .unset] [(.int (1 : Int32))])
    refine own_go (fun t k => XS.goto X3.here hx rfl (pc0 := 115) (pc' := 119) rfl (hb hby at_115) (by decide) (by decide) k) ?_
    show own_G p e below _ T3 (mkF m 119 #[.val (.int i0), .val (.int i1), .val (.int i0), .val (own_of a_VALUES a_BIND a_UNBIND a_SEARCH a_MODIFY a_ADD a_DELETE a_MODIFY_DN a_COMPARE a_ABANDON a_EXTENDED cl_VALUES i0), .unset, .unset, .unset] [(.int (1 : Int32))])
    exact own_retN X3 hx hlk hret (by simp) (hb hby at_119) (by decide) (by decide) ⟨rfl, N3⟩
  ·
    refine own_go (fun t k => XS.ifNo X0.here hx rfl (hb hby at_3) rfl (Jvm.Free.XT.i0_eq_f hc1) k) ?_
    show own_G p e below _ T0 (mkF m 6 #[.val (.int i0), .val (.int i1), .unset, .unset, .unset, .unset, .unset] [])
    refine own_go (fun t k => XS.bipush X0.here hx rfl (hb hby at_6) k) ?_
    show own_G p e below _ T0 (mkF m 8 #[.val (.int i0), .val (.int i1), .unset, .unset, .unset, .unset, .unset] [(.int (10 : Int32))])
    obtain ⟨T4, h4, c4, X4, e4, E4, A4, st4⟩ := newP X0 hx hZ (hw _ (List.mem_of_getElem? (i := 0) rfl)) e0 (g := (mkF m 8 #[.val (.int i0), .val (.int i1), .unset, .unset, .unset, .unset, .unset] [(.int (10 : Int32))])) rfl (hb hby at_8) rfl (by decide) (cap := 10) (by decide) (by decide) (by decide) (by decide)
    obtain ⟨a4, g4⟩ : ∃ z, z = h0.size := ⟨_, rfl⟩
    rw [← g4] at A4 st4
    replace A4 : Arr Z h4 a4 (own_cell c4 #[(.int 0), (.int 0), (.int 0), (.int 0), (.int 0), (.int 0), (.int 0), (.int 0), (.int 0), (.int 0)]) .int := A4
    have x4 : Ext h0 h4 := E4
    have j4 : h0.size ≤ a4 := Nat.le_of_eq g4.symm
    refine own_go st4 ?_
    show own_G p e below _ T4 (mkF m 10 #[.val (.int i0), .val (.int i1), .unset, .unset, .unset, .unset, .unset] [(.ref a4)])
    refine own_go (fun t k => XS.dup X4.here hx rfl (hb hby at_10) rfl rfl k) ?_
    show own_G p e below _ T4 (mkF m 11 #[.val (.int i0), .val (.int i1), .unset, .unset, .unset, .unset, .unset] [(.ref a4), (.ref a4)])
    refine own_go (fun t k => XS.iconst X4.here hx rfl (hb hby at_11) k) ?_
    show own_G p e below _ T4 (mkF m 12 #[.val (.int i0), .val (.int i1), .unset, .unset, .unset, .unset, .unset] [(.int (0 : Int32)), (.ref a4), (.ref a4)])
    refine own_go (fun t k => XS.bipush X4.here hx rfl (hb hby at_12) k) ?_
    show own_G p e below _ T4 (mkF m 14 #[.val (.int i0), .val (.int i1), .unset, .unset, .unset, .unset, .unset] [(.int (96 : Int32)), (.int (0 : Int32)), (.ref a4), (.ref a4)])
    obtain ⟨T5, h5, X5, e5, W5, st5⟩ := stI X4 hx hZ e4 A4 (j := (0 : Int32)) (own_in (n := 10) rfl (by decide)) (g := (mkF m 14 #[.val (.int i0), .val (.int i1), .unset, .unset, .unset, .unset, .unset] [(.int (96 : Int32)), (.int (0 : Int32)), (.ref a4), (.ref a4)])) rfl rfl (hb hby at_14)
    have A5 : Arr Z h5 a4 (own_cell c4 #[(.int (96 : Int32)), (.int 0), (.int 0), (.int 0), (.int 0), (.int 0), (.int 0), (.int 0), (.int 0), (.int 0)]) .int := A4.same W5
    have x5 : Ext h0 h5 := own_ext_wr x4 W5 j4
    have N5 := Fr.snoc X5 N0 (Nat.le_trans Z0 j4)
    refine own_go st5 ?_
    show own_G p e below _ T5 (mkF m 15 #[.val (.int i0), .val (.int i1), .unset, .unset, .unset, .unset, .unset] [(.ref a4)])
    refine own_go (fun t k => XS.dup X5.here hx rfl (hb hby at_15) rfl rfl k) ?_
    show own_G p e below _ T5 (mkF m 16 #[.val (.int i0), .val (.int i1), .unset, .unset, .unset, .unset, .unset] [(.ref a4), (.ref a4)])
    refine own_go (fun t k => XS.iconst X5.here hx rfl (hb hby at_16) k) ?_
    show own_G p e below _ T5 (mkF m 17 #[.val (.int i0), .val (.int i1), .unset, .unset, .unset, .unset, .unset] [(.int (1 : Int32)), (.ref a4), (.ref a4)])
    refine own_go (fun t k => XS.bipush X5.here hx rfl (hb hby at_17) k) ?_
    show own_G p e below _ T5 (mkF m 19 #[.val (.int i0), .val (.int i1), .unset, .unset, .unset, .unset, .unset] [(.int (66 : Int32)), (.int (1 : Int32)), (.ref a4), (.ref a4)])
    obtain ⟨T6, h6, X6, e6, W6, st6⟩ := stI X5 hx hZ e5 A5 (j := (1 : Int32)) (own_in (n := 10) rfl (by decide)) (g := (mkF m 19 #[.val (.int i0), .val (.int i1), .unset, .unset, .unset, .unset, .unset] [(.int (66 : Int32)), (.int (1 : Int32)), (.ref a4), (.ref a4)])) rfl rfl (hb hby at_19)
    have A6 : Arr Z h6 a4 (own_cell c4 #[(.int (96 : Int32)), (.int (66 : Int32)), (.int 0), (.int 0), (.int 0), (.int 0), (.int 0), (.int 0), (.int 0), (.int 0)]) .int := A5.same W6
    have x6 : Ext h0 h6 := own_ext_wr x5 W6 j4
    have N6 := Fr.snoc X6 N5 (Nat.le_trans Z0 j4)
    refine own_go st6 ?_
    show own_G p e below _ T6 (mkF m 20 #[.val (.int i0), .val (.int i1), .unset, .unset, .unset, .unset, .unset] [(.ref a4)])
    refine own_go (fun t k => XS.dup X6.here hx rfl (hb hby at_20) rfl rfl k) ?_
    show own_G p e below _ T6 (mkF m 21 #[.val (.int i0), .val (.int i1), .unset, .unset, .unset, .unset, .unset] [(.ref a4), (.ref a4)])
    refine own_go (fun t k => XS.iconst X6.here hx rfl (hb hby at_21) k) ?_
    show own_G p e below _ T6 (mkF m 22 #[.val (.int i0), .val (.int i1), .unset, .unset, .unset, .unset, .unset] [(.int (2 : Int32)), (.ref a4), (.ref a4)])
    refine own_go (fun t k => XS.bipush X6.here hx rfl (hb hby at_22) k) ?_
    show own_G p e below _ T6 (mkF m 24 #[.val (.int i0), .val (.int i1), .unset, .unset, .unset, .unset, .unset] [(.int (99 : Int32)), (.int (2 : Int32)), (.ref a4), (.ref a4)])
    obtain ⟨T7, h7, X7, e7, W7, st7⟩ := stI X6 hx hZ e6 A6 (j := (2 : Int32)) (own_in (n := 10) rfl (by decide)) (g := (mkF m 24 #[.val (.int i0), .val (.int i1), .unset, .unset, .unset, .unset, .unset] [(.int (99 : Int32)), (.int (2 : Int32)), (.ref a4), (.ref a4)])) rfl rfl (hb hby at_24)
    have A7 : Arr Z h7 a4 (own_cell c4 #[(.int (96 : Int32)), (.int (66 : Int32)), (.int (99 : Int32)), (.int 0), (.int 0), (.int 0), (.int 0), (.int 0), (.int 0), (.int 0)]) .int := A6.same W7
    have x7 : Ext h0 h7 := own_ext_wr x6 W7 j4
    have N7 := Fr.snoc X7 N6 (Nat.le_trans Z0 j4)
    refine own_go st7 ?_
    show own_G p e below _ T7 (mkF m 25 #[.val (.int i0), .val (.int i1), .unset, .unset, .unset, .unset, .unset] [(.ref a4)])
    refine own_go (fun t k => XS.dup X7.here hx rfl (hb hby at_25) rfl rfl k) ?_
    show own_G p e below _ T7 (mkF m 26 #[.val (.int i0), .val (.int i1), .unset, .unset, .unset, .unset, .unset] [(.ref a4), (.ref a4)])
    refine own_go (fun t k => XS.iconst X7.here hx rfl (hb hby at_26) k) ?_
    show own_G p e below _ T7 (mkF m 27 #[.val (.int i0), .val (.int i1), .unset, .unset, .unset, .unset, .unset] [(.int (3 : Int32)), (.ref a4), (.ref a4)])
    refine own_go (fun t k => XS.bipush X7.here hx rfl (hb hby at_27) k) ?_
    show own_G p e below _ T7 (mkF m 29 #[.val (.int i0), .val (.int i1), .unset, .unset, .unset, .unset, .unset] [(.int (102 : Int32)), (.int (3 : Int32)), (.ref a4), (.ref a4)])
    obtain ⟨T8, h8, X8, e8, W8, st8⟩ := stI X7 hx hZ e7 A7 (j := (3 : Int32)) (own_in (n := 10) rfl (by decide)) (g := (mkF m 29 #[.val (.int i0), .val (.int i1), .unset, .unset, .unset, .unset, .unset] [(.int (102 : Int32)), (.int (3 : Int32)), (.ref a4), (.ref a4)])) rfl rfl (hb hby at_29)
    have A8 : Arr Z h8 a4 (own_cell c4 #[(.int (96 : Int32)), (.int (66 : Int32)), (.int (99 : Int32)), (.int (102 : Int32)), (.int 0), (.int 0), (.int 0), (.int 0), (.int 0), (.int 0)]) .int := A7.same W8
    have x8 : Ext h0 h8 := own_ext_wr x7 W8 j4
    have N8 := Fr.snoc X8 N7 (Nat.le_trans Z0 j4)
    refine own_go st8 ?_
    show own_G p e below _ T8 (mkF m 30 #[.val (.int i0), .val (.int i1), .unset, .unset, .unset, .unset, .unset] [(.ref a4)])
    refine own_go (fun t k => XS.dup X8.here hx rfl (hb hby at_30) rfl rfl k) ?_
    show own_G p e below _ T8 (mkF m 31 #[.val (.int i0), .val (.int i1), .unset, .unset, .unset, .unset, .unset] [(.ref a4), (.ref a4)])
    refine own_go (fun t k => XS.iconst X8.here hx rfl (hb hby at_31) k) ?_
    show own_G p e below _ T8 (mkF m 32 #[.val (.int i0), .val (.int i1), .unset, .unset, .unset, .unset, .unset] [(.int (4 : Int32)), (.ref a4), (.ref a4)])
    refine own_go (fun t k => XS.bipush X8.here hx rfl (hb hby at_32) k) ?_
    show own_G p e below _ T8 (mkF m 34 #[.val (.int i0), .val (.int i1), .unset, .unset, .unset, .unset, .unset] [(.int (104 : Int32)), (.int (4 : Int32)), (.ref a4), (.ref a4)])
    obtain ⟨T9, h9, X9, e9, W9, st9⟩ := stI X8 hx hZ e8 A8 (j := (4 : Int32)) (own_in (n := 10) rfl (by decide)) (g := (mkF m 34 #[.val (.int i0), .val (.int i1), .unset, .unset, .unset, .unset, .unset] [(.int (104 : Int32)), (.int (4 : Int32)), (.ref a4), (.ref a4)])) rfl rfl (hb hby at_34)
    have A9 : Arr Z h9 a4 (own_cell c4 #[(.int (96 : Int32)), (.int (66 : Int32)), (.int (99 : Int32)), (.int (102 : Int32)), (.int (104 : Int32)), (.int 0), (.int 0), (.int 0), (.int 0), (.int 0)]) .int := A8.same W9
    have x9 : Ext h0 h9 := own_ext_wr x8 W9 j4
    have N9 := Fr.snoc X9 N8 (Nat.le_trans Z0 j4)
    refine own_go st9 ?_
    show own_G p e below _ T9 (mkF m 35 #[.val (.int i0), .val (.int i1), .unset, .unset, .unset, .unset, .unset] [(.ref a4)])
    refine own_go (fun t k => XS.dup X9.here hx rfl (hb hby at_35) rfl rfl k) ?_
    show own_G p e below _ T9 (mkF m 36 #[.val (.int i0), .val (.int i1), .unset, .unset, .unset, .unset, .unset] [(.ref a4), (.ref a4)])
    refine own_go (fun t k => XS.iconst X9.here hx rfl (hb hby at_36) k) ?_
    show own_G p e below _ T9 (mkF m 37 #[.val (.int i0), .val (.int i1), .unset, .unset, .unset, .unset, .unset] [(.int (5 : Int32)), (.ref a4), (.ref a4)])
    refine own_go (fun t k => XS.bipush X9.here hx rfl (hb hby at_37) k) ?_
    show own_G p e below _ T9 (mkF m 39 #[.val (.int i0), .val (.int i1), .unset, .unset, .unset, .unset, .unset] [(.int (74 : Int32)), (.int (5 : Int32)), (.ref a4), (.ref a4)])
    obtain ⟨T10, h10, X10, e10, W10, st10⟩ := stI X9 hx hZ e9 A9 (j := (5 : Int32)) (own_in (n := 10) rfl (by decide)) (g := (mkF m 39 #[.val (.int i0), .val (.int i1), .unset, .unset, .unset, .unset, .unset] [(.int (74 : Int32)), (.int (5 : Int32)), (.ref a4), (.ref a4)])) rfl rfl (hb hby at_39)
    have A10 : Arr Z h10 a4 (own_cell c4 #[(.int (96 : Int32)), (.int (66 : Int32)), (.int (99 : Int32)), (.int (102 : Int32)), (.int (104 : Int32)), (.int (74 : Int32)), (.int 0), (.int 0), (.int 0), (.int 0)]) .int := A9.same W10
    have x10 : Ext h0 h10 := own_ext_wr x9 W10 j4
    have N10 := Fr.snoc X10 N9 (Nat.le_trans Z0 j4)
    refine own_go st10 ?_
    show own_G p e below _ T10 (mkF m 40 #[.val (.int i0), .val (.int i1), .unset, .unset, .unset, .unset, .unset] [(.ref a4)])
    refine own_go (fun t k => XS.dup X10.here hx rfl (hb hby at_40) rfl rfl k) ?_
    show own_G p e below _ T10 (mkF m 41 #[.val (.int i0), .val (.int i1), .unset, .unset, .unset, .unset, .unset] [(.ref a4), (.ref a4)])
    refine own_go (fun t k => XS.bipush X10.here hx rfl (hb hby at_41) k) ?_
    show own_G p e below _ T10 (mkF m 43 #[.val (.int i0), .val (.int i1), .unset, .unset, .unset, .unset, .unset] [(.int (6 : Int32)), (.ref a4), (.ref a4)])
    refine own_go (fun t k => XS.bipush X10.here hx rfl (hb hby at_43) k) ?_
    show own_G p e below _ T10 (mkF m 45 #[.val (.int i0), .val (.int i1), .unset, .unset, .unset, .unset, .unset] [(.int (108 : Int32)), (.int (6 : Int32)), (.ref a4), (.ref a4)])
    obtain ⟨T11, h11, X11, e11, W11, st11⟩ := stI X10 hx hZ e10 A10 (j := (6 : Int32)) (own_in (n := 10) rfl (by decide)) (g := (mkF m 45 #[.val (.int i0), .val (.int i1), .unset, .unset, .unset, .unset, .unset] [(.int (108 : Int32)), (.int (6 : Int32)), (.ref a4), (.ref a4)])) rfl rfl (hb hby at_45)
    have A11 : Arr Z h11 a4 (own_cell c4 #[(.int (96 : Int32)), (.int (66 : Int32)), (.int (99 : Int32)), (.int (102 : Int32)), (.int (104 : Int32)), (.int (74 : Int32)), (.int (108 : Int32)), (.int 0), (.int 0), (.int 0)]) .int := A10.same W11
    have x11 : Ext h0 h11 := own_ext_wr x10 W11 j4
    have N11 := Fr.snoc X11 N10 (Nat.le_trans Z0 j4)
    refine own_go st11 ?_
    show own_G p e below _ T11 (mkF m 46 #[.val (.int i0), .val (.int i1), .unset, .unset, .unset, .unset, .unset] [(.ref a4)])
    refine own_go (fun t k => XS.dup X11.here hx rfl (hb hby at_46) rfl rfl k) ?_
    show own_G p e below _ T11 (mkF m 47 #[.val (.int i0), .val (.int i1), .unset, .unset, .unset, .unset, .unset] [(.ref a4), (.ref a4)])
    refine own_go (fun t k => XS.bipush X11.here hx rfl (hb hby at_47) k) ?_
    show own_G p e below _ T11 (mkF m 49 #[.val (.int i0), .val (.int i1), .unset, .unset, .unset, .unset, .unset] [(.int (7 : Int32)), (.ref a4), (.ref a4)])
    refine own_go (fun t k => XS.bipush X11.here hx rfl (hb hby at_49) k) ?_
    show own_G p e below _ T11 (mkF m 51 #[.val (.int i0), .val (.int i1), .unset, .unset, .unset, .unset, .unset] [(.int (110 : Int32)), (.int (7 : Int32)), (.ref a4), (.ref a4)])
    obtain ⟨T12, h12, X12, e12, W12, st12⟩ := stI X11 hx hZ e11 A11 (j := (7 : Int32)) (own_in (n := 10) rfl (by decide)) (g := (mkF m 51 #[.val (.int i0), .val (.int i1), .unset, .unset, .unset, .unset, .unset] [(.int (110 : Int32)), (.int (7 : Int32)), (.ref a4), (.ref a4)])) rfl rfl (hb hby at_51)
    have A12 : Arr Z h12 a4 (own_cell c4 #[(.int (96 : Int32)), (.int (66 : Int32)), (.int (99 : Int32)), (.int (102 : Int32)), (.int (104 : Int32)), (.int (74 : Int32)), (.int (108 : Int32)), (.int (110 : Int32)), (.int 0), (.int 0)]) .int := A11.same W12
    have x12 : Ext h0 h12 := own_ext_wr x11 W12 j4
    have N12 := Fr.snoc X12 N11 (Nat.le_trans Z0 j4)
    refine own_go st12 ?_
    show own_G p e below _ T12 (mkF m 52 #[.val (.int i0), .val (.int i1), .unset, .unset, .unset, .unset, .unset] [(.ref a4)])
    refine own_go (fun t k => XS.dup X12.here hx rfl (hb hby at_52) rfl rfl k) ?_
    show own_G p e below _ T12 (mkF m 53 #[.val (.int i0), .val (.int i1), .unset, .unset, .unset, .unset, .unset] [(.ref a4), (.ref a4)])
    refine own_go (fun t k => XS.bipush X12.here hx rfl (hb hby at_53) k) ?_
    show own_G p e below _ T12 (mkF m 55 #[.val (.int i0), .val (.int i1), .unset, .unset, .unset, .unset, .unset] [(.int (8 : Int32)), (.ref a4), (.ref a4)])
    refine own_go (fun t k => XS.bipush X12.here hx rfl (hb hby at_55) k) ?_
    show own_G p e below _ T12 (mkF m 57 #[.val (.int i0), .val (.int i1), .unset, .unset, .unset, .unset, .unset] [(.int (80 : Int32)), (.int (8 : Int32)), (.ref a4), (.ref a4)])
    obtain ⟨T13, h13, X13, e13, W13, st13⟩ := stI X12 hx hZ e12 A12 (j := (8 : Int32)) (own_in (n := 10) rfl (by decide)) (g := (mkF m 57 #[.val (.int i0), .val (.int i1), .unset, .unset, .unset, .unset, .unset] [(.int (80 : Int32)), (.int (8 : Int32)), (.ref a4), (.ref a4)])) rfl rfl (hb hby at_57)
    have A13 : Arr Z h13 a4 (own_cell c4 #[(.int (96 : Int32)), (.int (66 : Int32)), (.int (99 : Int32)), (.int (102 : Int32)), (.int (104 : Int32)), (.int (74 : Int32)), (.int (108 : Int32)), (.int (110 : Int32)), (.int (80 : Int32)), (.int 0)]) .int := A12.same W13
    have x13 : Ext h0 h13 := own_ext_wr x12 W13 j4
    have N13 := Fr.snoc X13 N12 (Nat.le_trans Z0 j4)
    refine own_go st13 ?_
    show own_G p e below _ T13 (mkF m 58 #[.val (.int i0), .val (.int i1), .unset, .unset, .unset, .unset, .unset] [(.ref a4)])
    refine own_go (fun t k => XS.dup X13.here hx rfl (hb hby at_58) rfl rfl k) ?_
    show own_G p e below _ T13 (mkF m 59 #[.val (.int i0), .val (.int i1), .unset, .unset, .unset, .unset, .unset] [(.ref a4), (.ref a4)])
    refine own_go (fun t k => XS.bipush X13.here hx rfl (hb hby at_59) k) ?_
    show own_G p e below _ T13 (mkF m 61 #[.val (.int i0), .val (.int i1), .unset, .unset, .unset, .unset, .unset] [(.int (9 : Int32)), (.ref a4), (.ref a4)])
    refine own_go (fun t k => XS.bipush X13.here hx rfl (hb hby at_61) k) ?_
    show own_G p e below _ T13 (mkF m 63 #[.val (.int i0), .val (.int i1), .unset, .unset, .unset, .unset, .unset] [(.int (119 : Int32)), (.int (9 : Int32)), (.ref a4), (.ref a4)])
    obtain ⟨T14, h14, X14, e14, W14, st14⟩ := stI X13 hx hZ e13 A13 (j := (9 : Int32)) (own_in (n := 10) rfl (by decide)) (g := (mkF m 63 #[.val (.int i0), .val (.int i1), .unset, .unset, .unset, .unset, .unset] [(.int (119 : Int32)), (.int (9 : Int32)), (.ref a4), (.ref a4)])) rfl rfl (hb hby at_63)
    have A14 : Arr Z h14 a4 (own_cell c4 #[(.int (96 : Int32)), (.int (66 : Int32)), (.int (99 : Int32)), (.int (102 : Int32)), (.int (104 : Int32)), (.int (74 : Int32)), (.int (108 : Int32)), (.int (110 : Int32)), (.int (80 : Int32)), (.int (119 : Int32))]) .int := A13.same W14
    have x14 : Ext h0 h14 := own_ext_wr x13 W14 j4
    have N14 := Fr.snoc X14 N13 (Nat.le_trans Z0 j4)
    refine own_go st14 ?_
    show own_G p e below _ T14 (mkF m 64 #[.val (.int i0), .val (.int i1), .unset, .unset, .unset, .unset, .unset] [(.ref a4)])
    refine own_go (fun t k => XS.astoreN X14.here hx rfl (hb hby at_64) rfl rfl (l' := #[.val (.int i0), .val (.int i1), .unset, .val (.ref a4), .unset, .unset, .unset]) rfl k) ?_
    show own_G p e below _ T14 (mkF m 65 #[.val (.int i0), .val (.int i1), .unset, .val (.ref a4), .unset, .unset, .unset] [])
    refine own_go (fun t k => XS.iloadN X14.here hx rfl (hb hby at_65) rfl k) ?_
    show own_G p e below _ T14 (mkF m 66 #[.val (.int i0), .val (.int i1), .unset, .val (.ref a4), .unset, .unset, .unset] [(.int i1)])
    refine own_go (fun t k => XS.iconst X14.here hx rfl (hb hby at_66) k) ?_
    show own_G p e below _ T14 (mkF m 67 #[.val (.int i0), .val (.int i1), .unset, .val (.ref a4), .unset, .unset, .unset] [(.int (1 : Int32)), (.int i1)])
    refine own_go (fun t k => XT.iushr X14.here hx rfl (hb hby at_67) rfl k) ?_
    show own_G p e below _ T14 (mkF m 68 #[.val (.int i0), .val (.int i1), .unset, .val (.ref a4), .unset, .unset, .unset] [(.int (Jvm.Free.XT.ushr i1 (1 : Int32)))])
    refine own_go (fun t k => XS.istore X14.here hx rfl (hb hby at_68) rfl (l' := #[.val (.int i0), .val (.int i1), .unset, .val (.ref a4), .val (.int (Jvm.Free.XT.ushr i1 (1 : Int32))), .unset, .unset]) rfl k) ?_
    show own_G p e below _ T14 (mkF m 70 #[.val (.int i0), .val (.int i1), .unset, .val (.ref a4), .val (.int (Jvm.Free.XT.ushr i1 (1 : Int32))), .unset, .unset] [])
    refine own_go (fun t k => XS.iload X14.here hx rfl (hb hby at_70) rfl k) ?_
    show own_G p e below _ T14 (mkF m 72 #[.val (.int i0), .val (.int i1), .unset, .val (.ref a4), .val (.int (Jvm.Free.XT.ushr i1 (1 : Int32))), .unset, .unset] [(.int (Jvm.Free.XT.ushr i1 (1 : Int32)))])
    refine own_go (fun t k => XS.bipush X14.here hx rfl (hb hby at_72) k) ?_
    show own_G p e below _ T14 (mkF m 74 #[.val (.int i0), .val (.int i1), .unset, .val (.ref a4), .val (.int (Jvm.Free.XT.ushr i1 (1 : Int32))), .unset, .unset] [(.int (10 : Int32)), (.int (Jvm.Free.XT.ushr i1 (1 : Int32)))])
    refine own_go (fun t k => iremM X14 hx rfl (hb hby at_74) rfl (by decide) k) ?_
    show own_G p e below _ T14 (mkF m 75 #[.val (.int i0), .val (.int i1), .unset, .val (.ref a4), .val (.int (Jvm.Free.XT.ushr i1 (1 : Int32))), .unset, .unset] [(.int ((Jvm.Free.XT.ushr i1 (1 : Int32)) % (10 : Int32)))])
    refine own_go (fun t k => XS.istore X14.here hx rfl (hb hby at_75) rfl (l' := #[.val (.int i0), .val (.int i1), .unset, .val (.ref a4), .val (.int (Jvm.Free.XT.ushr i1 (1 : Int32))), .val (.int ((Jvm.Free.XT.ushr i1 (1 : Int32)) % (10 : Int32))), .unset]) rfl k) ?_
    show own_G p e below _ T14 (mkF m 77 #[.val (.int i0), .val (.int i1), .unset, .val (.ref a4), .val (.int (Jvm.Free.XT.ushr i1 (1 : Int32))), .val (.int ((Jvm.Free.XT.ushr i1 (1 : Int32)) % (10 : Int32))), .unset] [])
    refine own_go (fun t k => XS.iload X14.here hx rfl (hb hby at_77) rfl k) ?_
    show own_G p e below _ T14 (mkF m 79 #[.val (.int i0), .val (.int i1), .unset, .val (.ref a4), .val (.int (Jvm.Free.XT.ushr i1 (1 : Int32))), .val (.int ((Jvm.Free.XT.ushr i1 (1 : Int32)) % (10 : Int32))), .unset] [(.int (Jvm.Free.XT.ushr i1 (1 : Int32)))])
    refine own_go (fun t k => XS.iconst X14.here hx rfl (hb hby at_79) k) ?_
    show own_G p e below _ T14 (mkF m 80 #[.val (.int i0), .val (.int i1), .unset, .val (.ref a4), .val (.int (Jvm.Free.XT.ushr i1 (1 : Int32))), .val (.int ((Jvm.Free.XT.ushr i1 (1 : Int32)) % (10 : Int32))), .unset] [(.int (4 : Int32)), (.int (Jvm.Free.XT.ushr i1 (1 : Int32)))])
    refine own_go (fun t k => XT.iushr X14.here hx rfl (hb hby at_80) rfl k) ?_
    show own_G p e below _ T14 (mkF m 81 #[.val (.int i0), .val (.int i1), .unset, .val (.ref a4), .val (.int (Jvm.Free.XT.ushr i1 (1 : Int32))), .val (.int ((Jvm.Free.XT.ushr i1 (1 : Int32)) % (10 : Int32))), .unset] [(.int (Jvm.Free.XT.ushr (Jvm.Free.XT.ushr i1 (1 : Int32)) (4 : Int32)))])
    refine own_go (fun t k => XS.bipush X14.here hx rfl (hb hby at_81) k) ?_
    show own_G p e below _ T14 (mkF m 83 #[.val (.int i0), .val (.int i1), .unset, .val (.ref a4), .val (.int (Jvm.Free.XT.ushr i1 (1 : Int32))), .val (.int ((Jvm.Free.XT.ushr i1 (1 : Int32)) % (10 : Int32))), .unset] [(.int (7 : Int32)), (.int (Jvm.Free.XT.ushr (Jvm.Free.XT.ushr i1 (1 : Int32)) (4 : Int32)))])
    refine own_go (fun t k => XS.iand X14.here hx rfl (hb hby at_83) rfl k) ?_
    show own_G p e below _ T14 (mkF m 84 #[.val (.int i0), .val (.int i1), .unset, .val (.ref a4), .val (.int (Jvm.Free.XT.ushr i1 (1 : Int32))), .val (.int ((Jvm.Free.XT.ushr i1 (1 : Int32)) % (10 : Int32))), .unset] [(.int ((Jvm.Free.XT.ushr (Jvm.Free.XT.ushr i1 (1 : Int32)) (4 : Int32)) &&& (7 : Int32)))])
    refine own_go (fun t k => XS.iconst X14.here hx rfl (hb hby at_84) k) ?_
    show own_G p e below _ T14 (mkF m 85 #[.val (.int i0), .val (.int i1), .unset, .val (.ref a4), .val (.int (Jvm.Free.XT.ushr i1 (1 : Int32))), .val (.int ((Jvm.Free.XT.ushr i1 (1 : Int32)) % (10 : Int32))), .unset] [(.int (3 : Int32)), (.int ((Jvm.Free.XT.ushr (Jvm.Free.XT.ushr i1 (1 : Int32)) (4 : Int32)) &&& (7 : Int32)))])
    refine own_go (fun t k => XS.isub X14.here hx rfl (hb hby at_85) rfl k) ?_
    show own_G p e below _ T14 (mkF m 86 #[.val (.int i0), .val (.int i1), .unset, .val (.ref a4), .val (.int (Jvm.Free.XT.ushr i1 (1 : Int32))), .val (.int ((Jvm.Free.XT.ushr i1 (1 : Int32)) % (10 : Int32))), .unset] [(.int (((Jvm.Free.XT.ushr (Jvm.Free.XT.ushr i1 (1 : Int32)) (4 : Int32)) &&& (7 : Int32)) - (3 : Int32)))])
    refine own_go (fun t k => XS.istore X14.here hx rfl (hb hby at_86) rfl (l' := #[.val (.int i0), .val (.int i1), .unset, .val (.ref a4), .val (.int (Jvm.Free.XT.ushr i1 (1 : Int32))), .val (.int ((Jvm.Free.XT.ushr i1 (1 : Int32)) % (10 : Int32))), .val (.int (((Jvm.Free.XT.ushr (Jvm.Free.XT.ushr i1 (1 : Int32)) (4 : Int32)) &&& (7 : Int32)) - (3 : Int32)))]) rfl k) ?_
    show own_G p e below _ T14 (mkF m 88 #[.val (.int i0), .val (.int i1), .unset, .val (.ref a4), .val (.int (Jvm.Free.XT.ushr i1 (1 : Int32))), .val (.int ((Jvm.Free.XT.ushr i1 (1 : Int32)) % (10 : Int32))), .val (.int (((Jvm.Free.XT.ushr (Jvm.Free.XT.ushr i1 (1 : Int32)) (4 : Int32)) &&& (7 : Int32)) - (3 : Int32)))] [])
    rcases hk with hk15 | hk15 | hk15 | hk15 | hk15 | hk15 | hk15 | hk15 | hk15 | hk15
    · rw [hk15]
      show own_G p e below _ T14 (mkF m 88 #[.val (.int i0), .val (.int i1), .unset, .val (.ref a4), .val (.int (Jvm.Free.XT.ushr i1 (1 : Int32))), .val (.int (0 : Int32)), .val (.int (((Jvm.Free.XT.ushr (Jvm.Free.XT.ushr i1 (1 : Int32)) (4 : Int32)) &&& (7 : Int32)) - (3 : Int32)))] [])
      refine own_go (fun t k => XS.aloadN X14.here hx rfl (hb hby at_88) rfl rfl k) ?_
      show own_G p e below _ T14 (mkF m 89 #[.val (.int i0), .val (.int i1), .unset, .val (.ref a4), .val (.int (Jvm.Free.XT.ushr i1 (1 : Int32))), .val (.int (0 : Int32)), .val (.int (((Jvm.Free.XT.ushr (Jvm.Free.XT.ushr i1 (1 : Int32)) (4 : Int32)) &&& (7 : Int32)) - (3 : Int32)))] [(.ref a4)])
      refine own_go (fun t k => XS.iload X14.here hx rfl (hb hby at_89) rfl k) ?_
      show own_G p e below _ T14 (mkF m 91 #[.val (.int i0), .val (.int i1), .unset, .val (.ref a4), .val (.int (Jvm.Free.XT.ushr i1 (1 : Int32))), .val (.int (0 : Int32)), .val (.int (((Jvm.Free.XT.ushr (Jvm.Free.XT.ushr i1 (1 : Int32)) (4 : Int32)) &&& (7 : Int32)) - (3 : Int32)))] [(.int (0 : Int32)), (.ref a4)])
      refine own_go (X14.iaload hx (j := (0 : Int32)) (v := (.int (96 : Int32))) (own_cellAt e14 A14) (State.isArrayOf_alike hZ.alike A14.2.1) A14.2.2 (own_in (n := 10) rfl (by decide)) rfl (g := (mkF m 91 #[.val (.int i0), .val (.int i1), .unset, .val (.ref a4), .val (.int (Jvm.Free.XT.ushr i1 (1 : Int32))), .val (.int (0 : Int32)), .val (.int (((Jvm.Free.XT.ushr (Jvm.Free.XT.ushr i1 (1 : Int32)) (4 : Int32)) &&& (7 : Int32)) - (3 : Int32)))] [(.int (0 : Int32)), (.ref a4)])) rfl rfl (hb hby at_91)) ?_
      show own_G p e below _ T14 (mkF m 92 #[.val (.int i0), .val (.int i1), .unset, .val (.ref a4), .val (.int (Jvm.Free.XT.ushr i1 (1 : Int32))), .val (.int (0 : Int32)), .val (.int (((Jvm.Free.XT.ushr (Jvm.Free.XT.ushr i1 (1 : Int32)) (4 : Int32)) &&& (7 : Int32)) - (3 : Int32)))] [(.int (96 : Int32))])
      refine own_go (fun t k => XS.iload X14.here hx rfl (hb hby at_92) rfl k) ?_
      show own_G p e below _ T14 (mkF m 94 #[.val (.int i0), .val (.int i1), .unset, .val (.ref a4), .val (.int (Jvm.Free.XT.ushr i1 (1 : Int32))), .val (.int (0 : Int32)), .val (.int (((Jvm.Free.XT.ushr (Jvm.Free.XT.ushr i1 (1 : Int32)) (4 : Int32)) &&& (7 : Int32)) - (3 : Int32)))] [(.int (((Jvm.Free.XT.ushr (Jvm.Free.XT.ushr i1 (1 : Int32)) (4 : Int32)) &&& (7 : Int32)) - (3 : Int32))), (.int (96 : Int32))])
      refine own_go (fun t k => XS.iadd X14.here hx rfl (hb hby at_94) rfl k) ?_
      show own_G p e below _ T14 (mkF m 95 #[.val (.int i0), .val (.int i1), .unset, .val (.ref a4), .val (.int (Jvm.Free.XT.ushr i1 (1 : Int32))), .val (.int (0 : Int32)), .val (.int (((Jvm.Free.XT.ushr (Jvm.Free.XT.ushr i1 (1 : Int32)) (4 : Int32)) &&& (7 : Int32)) - (3 : Int32)))] [(.int ((96 : Int32) + (((Jvm.Free.XT.ushr (Jvm.Free.XT.ushr i1 (1 : Int32)) (4 : Int32)) &&& (7 : Int32)) - (3 : Int32))))])
      refine own_go (fun t k => XS.istoreN X14.here hx rfl (hb hby at_95) rfl (l' := #[.val (.int i0), .val (.int i1), .val (.int ((96 : Int32) + (((Jvm.Free.XT.ushr (Jvm.Free.XT.ushr i1 (1 : Int32)) (4 : Int32)) &&& (7 : Int32)) - (3 : Int32)))), .val (.ref a4), .val (.int (Jvm.Free.XT.ushr i1 (1 : Int32))), .val (.int (0 : Int32)), .val (.int (((Jvm.Free.XT.ushr (Jvm.Free.XT.ushr i1 (1 : Int32)) (4 : Int32)) &&& (7 : Int32)) - (3 : Int32)))]) rfl k) ?_
      show own_G p e below _ T14 (mkF m 96 #[.val (.int i0), .val (.int i1), .val (.int ((96 : Int32) + (((Jvm.Free.XT.ushr (Jvm.Free.XT.ushr i1 (1 : Int32)) (4 : Int32)) &&& (7 : Int32)) - (3 : Int32)))), .val (.ref a4), .val (.int (Jvm.Free.XT.ushr i1 (1 : Int32))), .val (.int (0 : Int32)), .val (.int (((Jvm.Free.XT.ushr (Jvm.Free.XT.ushr i1 (1 : Int32)) (4 : Int32)) &&& (7 : Int32)) - (3 : Int32)))] [])
      refine own_go (fun t k => XS.goto X14.here hx rfl (pc0 := 96) (pc' := 101) rfl (hb hby at_96) (by decide) (by decide) k) ?_
      show own_G p e below _ T14 (mkF m 101 #[.val (.int i0), .val (.int i1), .val (.int ((96 : Int32) + (((Jvm.Free.XT.ushr (Jvm.Free.XT.ushr i1 (1 : Int32)) (4 : Int32)) &&& (7 : Int32)) - (3 : Int32)))), .val (.ref a4), .val (.int (Jvm.Free.XT.ushr i1 (1 : Int32))), .val (.int (0 : Int32)), .val (.int (((Jvm.Free.XT.ushr (Jvm.Free.XT.ushr i1 (1 : Int32)) (4 : Int32)) &&& (7 : Int32)) - (3 : Int32)))] [])
      refine own_go (fun t k => XS.iloadN X14.here hx rfl (hb hby at_101) rfl k) ?_
      show own_G p e below _ T14 (mkF m 102 #[.val (.int i0), .val (.int i1), .val (.int ((96 : Int32) + (((Jvm.Free.XT.ushr (Jvm.Free.XT.ushr i1 (1 : Int32)) (4 : Int32)) &&& (7 : Int32)) - (3 : Int32)))), .val (.ref a4), .val (.int (Jvm.Free.XT.ushr i1 (1 : Int32))), .val (.int (0 : Int32)), .val (.int (((Jvm.Free.XT.ushr (Jvm.Free.XT.ushr i1 (1 : Int32)) (4 : Int32)) &&& (7 : Int32)) - (3 : Int32)))] [(.int ((96 : Int32) + (((Jvm.Free.XT.ushr (Jvm.Free.XT.ushr i1 (1 : Int32)) (4 : Int32)) &&& (7 : Int32)) - (3 : Int32))))])
      obtain ⟨T16, L16, v16, X16, ⟨rfl, rfl, q16⟩, st16⟩ := own_callS X14 hx hZ (y := (⟨"com/example/canonry/canonry/Operation", "ofRequestTag", "(I)Lcom/example/canonry/canonry/Operation;"⟩ : MethodName)) hown (hw _ (List.mem_of_getElem? (i := 1) rfl)) (hw _ (List.mem_of_getElem? (i := 2) rfl)) (hw _ (List.mem_of_getElem? (i := 3) rfl)) (hw _ (List.mem_of_getElem? (i := 4) rfl)) (by decide) (c_of l Z a0 hw a_VALUES a_BIND a_UNBIND a_SEARCH a_MODIFY a_ADD a_DELETE a_MODIFY_DN a_COMPARE a_ABANDON a_EXTENDED cl_VALUES ((96 : Int32) + (((Jvm.Free.XT.ushr (Jvm.Free.XT.ushr i1 (1 : Int32)) (4 : Int32)) &&& (7 : Int32)) - (3 : Int32))) h14 (own_B_ext x14 B) ) e14 (argsL := [(.int ((96 : Int32) + (((Jvm.Free.XT.ushr (Jvm.Free.XT.ushr i1 (1 : Int32)) (4 : Int32)) &&& (7 : Int32)) - (3 : Int32))))]) (rest := []) (g := (mkF m 102 #[.val (.int i0), .val (.int i1), .val (.int ((96 : Int32) + (((Jvm.Free.XT.ushr (Jvm.Free.XT.ushr i1 (1 : Int32)) (4 : Int32)) &&& (7 : Int32)) - (3 : Int32)))), .val (.ref a4), .val (.int (Jvm.Free.XT.ushr i1 (1 : Int32))), .val (.int (0 : Int32)), .val (.int (((Jvm.Free.XT.ushr (Jvm.Free.XT.ushr i1 (1 : Int32)) (4 : Int32)) &&& (7 : Int32)) - (3 : Int32)))] [(.int ((96 : Int32) + (((Jvm.Free.XT.ushr (Jvm.Free.XT.ushr i1 (1 : Int32)) (4 : Int32)) &&& (7 : Int32)) - (3 : Int32))))])) rfl (by rw [hml]; rfl) (ps := [.int]) (r := (some (.object "com/example/canonry/canonry/Operation"))) (by decide +kernel) rfl rfl (W := 0) (by show 2 * 0 + _ ≤ _; exact Nat.le_of_eq rfl) (hb hby at_102) (by decide) (by decide) (by decide) (by decide)
      have x16 := own_ext_trans x14 q16
      have A17 := A14.ext q16
      have N16 := Fr.app N14 (Fr.nil n0)
      refine own_go st16 ?_
      show own_G p e below _ T16 (mkF m 105 #[.val (.int i0), .val (.int i1), .val (.int ((96 : Int32) + (((Jvm.Free.XT.ushr (Jvm.Free.XT.ushr i1 (1 : Int32)) (4 : Int32)) &&& (7 : Int32)) - (3 : Int32)))), .val (.ref a4), .val (.int (Jvm.Free.XT.ushr i1 (1 : Int32))), .val (.int (0 : Int32)), .val (.int (((Jvm.Free.XT.ushr (Jvm.Free.XT.ushr i1 (1 : Int32)) (4 : Int32)) &&& (7 : Int32)) - (3 : Int32)))] [(own_of a_VALUES a_BIND a_UNBIND a_SEARCH a_MODIFY a_ADD a_DELETE a_MODIFY_DN a_COMPARE a_ABANDON a_EXTENDED cl_VALUES ((96 : Int32) + (((Jvm.Free.XT.ushr (Jvm.Free.XT.ushr i1 (1 : Int32)) (4 : Int32)) &&& (7 : Int32)) - (3 : Int32))))])
      refine own_go (fun t k => XS.astoreN X16.here hx rfl (hb hby at_105) rfl (own_of_ref a_VALUES a_BIND a_UNBIND a_SEARCH a_MODIFY a_ADD a_DELETE a_MODIFY_DN a_COMPARE a_ABANDON a_EXTENDED cl_VALUES ((96 : Int32) + (((Jvm.Free.XT.ushr (Jvm.Free.XT.ushr i1 (1 : Int32)) (4 : Int32)) &&& (7 : Int32)) - (3 : Int32)))) (l' := #[.val (.int i0), .val (.int i1), .val (.int ((96 : Int32) + (((Jvm.Free.XT.ushr (Jvm.Free.XT.ushr i1 (1 : Int32)) (4 : Int32)) &&& (7 : Int32)) - (3 : Int32)))), .val (own_of a_VALUES a_BIND a_UNBIND a_SEARCH a_MODIFY a_ADD a_DELETE a_MODIFY_DN a_COMPARE a_ABANDON a_EXTENDED cl_VALUES ((96 : Int32) + (((Jvm.Free.XT.ushr (Jvm.Free.XT.ushr i1 (1 : Int32)) (4 : Int32)) &&& (7 : Int32)) - (3 : Int32)))), .val (.int (Jvm.Free.XT.ushr i1 (1 : Int32))), .val (.int (0 : Int32)), .val (.int (((Jvm.Free.XT.ushr (Jvm.Free.XT.ushr i1 (1 : Int32)) (4 : Int32)) &&& (7 : Int32)) - (3 : Int32)))]) (XS.store1 (o := .val (.ref a4)) rfl (Or.inr ⟨_, rfl, rfl⟩) (own_cat (own_of_ref a_VALUES a_BIND a_UNBIND a_SEARCH a_MODIFY a_ADD a_DELETE a_MODIFY_DN a_COMPARE a_ABANDON a_EXTENDED cl_VALUES ((96 : Int32) + (((Jvm.Free.XT.ushr (Jvm.Free.XT.ushr i1 (1 : Int32)) (4 : Int32)) &&& (7 : Int32)) - (3 : Int32)))))) k) ?_
      show own_G p e below _ T16 (mkF m 106 #[.val (.int i0), .val (.int i1), .val (.int ((96 : Int32) + (((Jvm.Free.XT.ushr (Jvm.Free.XT.ushr i1 (1 : Int32)) (4 : Int32)) &&& (7 : Int32)) - (3 : Int32)))), .val (own_of a_VALUES a_BIND a_UNBIND a_SEARCH a_MODIFY a_ADD a_DELETE a_MODIFY_DN a_COMPARE a_ABANDON a_EXTENDED cl_VALUES ((96 : Int32) + (((Jvm.Free.XT.ushr (Jvm.Free.XT.ushr i1 (1 : Int32)) (4 : Int32)) &&& (7 : Int32)) - (3 : Int32)))), .val (.int (Jvm.Free.XT.ushr i1 (1 : Int32))), .val (.int (0 : Int32)), .val (.int (((Jvm.Free.XT.ushr (Jvm.Free.XT.ushr i1 (1 : Int32)) (4 : Int32)) &&& (7 : Int32)) - (3 : Int32)))] [])
      refine own_go (fun t k => XS.aloadN X16.here hx rfl (hb hby at_106) rfl (own_of_ref a_VALUES a_BIND a_UNBIND a_SEARCH a_MODIFY a_ADD a_DELETE a_MODIFY_DN a_COMPARE a_ABANDON a_EXTENDED cl_VALUES ((96 : Int32) + (((Jvm.Free.XT.ushr (Jvm.Free.XT.ushr i1 (1 : Int32)) (4 : Int32)) &&& (7 : Int32)) - (3 : Int32)))) k) ?_
      show own_G p e below _ T16 (mkF m 107 #[.val (.int i0), .val (.int i1), .val (.int ((96 : Int32) + (((Jvm.Free.XT.ushr (Jvm.Free.XT.ushr i1 (1 : Int32)) (4 : Int32)) &&& (7 : Int32)) - (3 : Int32)))), .val (own_of a_VALUES a_BIND a_UNBIND a_SEARCH a_MODIFY a_ADD a_DELETE a_MODIFY_DN a_COMPARE a_ABANDON a_EXTENDED cl_VALUES ((96 : Int32) + (((Jvm.Free.XT.ushr (Jvm.Free.XT.ushr i1 (1 : Int32)) (4 : Int32)) &&& (7 : Int32)) - (3 : Int32)))), .val (.int (Jvm.Free.XT.ushr i1 (1 : Int32))), .val (.int (0 : Int32)), .val (.int (((Jvm.Free.XT.ushr (Jvm.Free.XT.ushr i1 (1 : Int32)) (4 : Int32)) &&& (7 : Int32)) - (3 : Int32)))] [(own_of a_VALUES a_BIND a_UNBIND a_SEARCH a_MODIFY a_ADD a_DELETE a_MODIFY_DN a_COMPARE a_ABANDON a_EXTENDED cl_VALUES ((96 : Int32) + (((Jvm.Free.XT.ushr (Jvm.Free.XT.ushr i1 (1 : Int32)) (4 : Int32)) &&& (7 : Int32)) - (3 : Int32))))])
      refine own_go (fun t k => XS.iloadN X16.here hx rfl (hb hby at_107) rfl k) ?_
      show own_G p e below _ T16 (mkF m 108 #[.val (.int i0), .val (.int i1), .val (.int ((96 : Int32) + (((Jvm.Free.XT.ushr (Jvm.Free.XT.ushr i1 (1 : Int32)) (4 : Int32)) &&& (7 : Int32)) - (3 : Int32)))), .val (own_of a_VALUES a_BIND a_UNBIND a_SEARCH a_MODIFY a_ADD a_DELETE a_MODIFY_DN a_COMPARE a_ABANDON a_EXTENDED cl_VALUES ((96 : Int32) + (((Jvm.Free.XT.ushr (Jvm.Free.XT.ushr i1 (1 : Int32)) (4 : Int32)) &&& (7 : Int32)) - (3 : Int32)))), .val (.int (Jvm.Free.XT.ushr i1 (1 : Int32))), .val (.int (0 : Int32)), .val (.int (((Jvm.Free.XT.ushr (Jvm.Free.XT.ushr i1 (1 : Int32)) (4 : Int32)) &&& (7 : Int32)) - (3 : Int32)))] [(.int ((96 : Int32) + (((Jvm.Free.XT.ushr (Jvm.Free.XT.ushr i1 (1 : Int32)) (4 : Int32)) &&& (7 : Int32)) - (3 : Int32)))), (own_of a_VALUES a_BIND a_UNBIND a_SEARCH a_MODIFY a_ADD a_DELETE a_MODIFY_DN a_COMPARE a_ABANDON a_EXTENDED cl_VALUES ((96 : Int32) + (((Jvm.Free.XT.ushr (Jvm.Free.XT.ushr i1 (1 : Int32)) (4 : Int32)) &&& (7 : Int32)) - (3 : Int32))))])
      obtain ⟨T18, L18, v18, X18, ⟨rfl, rfl, q18⟩, st18⟩ := own_callS X16 hx hZ (y := (⟨"com/example/canonry/canonry/OperationOfRequestTagPinLaw", "expected", "(I)Lcom/example/canonry/canonry/Operation;"⟩ : MethodName)) hown (hw _ (List.mem_of_getElem? (i := 32) rfl)) (hw _ (List.mem_of_getElem? (i := 33) rfl)) (hw _ (List.mem_of_getElem? (i := 34) rfl)) (hw _ (List.mem_of_getElem? (i := 35) rfl)) (by decide) (c_exp l Z a0 hw a_VALUES a_BIND a_UNBIND a_SEARCH a_MODIFY a_ADD a_DELETE a_MODIFY_DN a_COMPARE a_ABANDON a_EXTENDED cl_VALUES ((96 : Int32) + (((Jvm.Free.XT.ushr (Jvm.Free.XT.ushr i1 (1 : Int32)) (4 : Int32)) &&& (7 : Int32)) - (3 : Int32))) T16.heap (own_B_ext x16 B) ) rfl (argsL := [(.int ((96 : Int32) + (((Jvm.Free.XT.ushr (Jvm.Free.XT.ushr i1 (1 : Int32)) (4 : Int32)) &&& (7 : Int32)) - (3 : Int32))))]) (rest := [(own_of a_VALUES a_BIND a_UNBIND a_SEARCH a_MODIFY a_ADD a_DELETE a_MODIFY_DN a_COMPARE a_ABANDON a_EXTENDED cl_VALUES ((96 : Int32) + (((Jvm.Free.XT.ushr (Jvm.Free.XT.ushr i1 (1 : Int32)) (4 : Int32)) &&& (7 : Int32)) - (3 : Int32))))]) (g := (mkF m 108 #[.val (.int i0), .val (.int i1), .val (.int ((96 : Int32) + (((Jvm.Free.XT.ushr (Jvm.Free.XT.ushr i1 (1 : Int32)) (4 : Int32)) &&& (7 : Int32)) - (3 : Int32)))), .val (own_of a_VALUES a_BIND a_UNBIND a_SEARCH a_MODIFY a_ADD a_DELETE a_MODIFY_DN a_COMPARE a_ABANDON a_EXTENDED cl_VALUES ((96 : Int32) + (((Jvm.Free.XT.ushr (Jvm.Free.XT.ushr i1 (1 : Int32)) (4 : Int32)) &&& (7 : Int32)) - (3 : Int32)))), .val (.int (Jvm.Free.XT.ushr i1 (1 : Int32))), .val (.int (0 : Int32)), .val (.int (((Jvm.Free.XT.ushr (Jvm.Free.XT.ushr i1 (1 : Int32)) (4 : Int32)) &&& (7 : Int32)) - (3 : Int32)))] [(.int ((96 : Int32) + (((Jvm.Free.XT.ushr (Jvm.Free.XT.ushr i1 (1 : Int32)) (4 : Int32)) &&& (7 : Int32)) - (3 : Int32)))), (own_of a_VALUES a_BIND a_UNBIND a_SEARCH a_MODIFY a_ADD a_DELETE a_MODIFY_DN a_COMPARE a_ABANDON a_EXTENDED cl_VALUES ((96 : Int32) + (((Jvm.Free.XT.ushr (Jvm.Free.XT.ushr i1 (1 : Int32)) (4 : Int32)) &&& (7 : Int32)) - (3 : Int32))))])) rfl (by rw [hml]; rfl) (ps := [.int]) (r := (some (.object "com/example/canonry/canonry/Operation"))) (by decide +kernel) rfl rfl (W := 1) (by show 2 * 0 + _ ≤ _; simp [own_cat (own_of_ref a_VALUES a_BIND a_UNBIND a_SEARCH a_MODIFY a_ADD a_DELETE a_MODIFY_DN a_COMPARE a_ABANDON a_EXTENDED cl_VALUES ((96 : Int32) + (((Jvm.Free.XT.ushr (Jvm.Free.XT.ushr i1 (1 : Int32)) (4 : Int32)) &&& (7 : Int32)) - (3 : Int32))))]) (hb hby at_108) (by decide) (by decide) (by decide) (by decide)
      have N18 := Fr.app N16 (Fr.nil n0)
      refine own_go st18 ?_
      show own_G p e below _ T18 (mkF m 111 #[.val (.int i0), .val (.int i1), .val (.int ((96 : Int32) + (((Jvm.Free.XT.ushr (Jvm.Free.XT.ushr i1 (1 : Int32)) (4 : Int32)) &&& (7 : Int32)) - (3 : Int32)))), .val (own_of a_VALUES a_BIND a_UNBIND a_SEARCH a_MODIFY a_ADD a_DELETE a_MODIFY_DN a_COMPARE a_ABANDON a_EXTENDED cl_VALUES ((96 : Int32) + (((Jvm.Free.XT.ushr (Jvm.Free.XT.ushr i1 (1 : Int32)) (4 : Int32)) &&& (7 : Int32)) - (3 : Int32)))), .val (.int (Jvm.Free.XT.ushr i1 (1 : Int32))), .val (.int (0 : Int32)), .val (.int (((Jvm.Free.XT.ushr (Jvm.Free.XT.ushr i1 (1 : Int32)) (4 : Int32)) &&& (7 : Int32)) - (3 : Int32)))] [(own_exp a_VALUES a_BIND a_UNBIND a_SEARCH a_MODIFY a_ADD a_DELETE a_MODIFY_DN a_COMPARE a_ABANDON a_EXTENDED cl_VALUES ((96 : Int32) + (((Jvm.Free.XT.ushr (Jvm.Free.XT.ushr i1 (1 : Int32)) (4 : Int32)) &&& (7 : Int32)) - (3 : Int32)))), (own_of a_VALUES a_BIND a_UNBIND a_SEARCH a_MODIFY a_ADD a_DELETE a_MODIFY_DN a_COMPARE a_ABANDON a_EXTENDED cl_VALUES ((96 : Int32) + (((Jvm.Free.XT.ushr (Jvm.Free.XT.ushr i1 (1 : Int32)) (4 : Int32)) &&& (7 : Int32)) - (3 : Int32))))])
      refine own_go (fun t k => Jvm.Free.XT.acmpNo X18.here hx rfl (hb hby at_111) rfl (own_of_ref a_VALUES a_BIND a_UNBIND a_SEARCH a_MODIFY a_ADD a_DELETE a_MODIFY_DN a_COMPARE a_ABANDON a_EXTENDED cl_VALUES ((96 : Int32) + (((Jvm.Free.XT.ushr (Jvm.Free.XT.ushr i1 (1 : Int32)) (4 : Int32)) &&& (7 : Int32)) - (3 : Int32)))) (own_exp_ref a_VALUES a_BIND a_UNBIND a_SEARCH a_MODIFY a_ADD a_DELETE a_MODIFY_DN a_COMPARE a_ABANDON a_EXTENDED cl_VALUES ((96 : Int32) + (((Jvm.Free.XT.ushr (Jvm.Free.XT.ushr i1 (1 : Int32)) (4 : Int32)) &&& (7 : Int32)) - (3 : Int32)))) (own_acVF (own_same a_VALUES a_BIND a_UNBIND a_SEARCH a_MODIFY a_ADD a_DELETE a_MODIFY_DN a_COMPARE a_ABANDON a_EXTENDED cl_VALUES ((96 : Int32) + (((Jvm.Free.XT.ushr (Jvm.Free.XT.ushr i1 (1 : Int32)) (4 : Int32)) &&& (7 : Int32)) - (3 : Int32))))) k) ?_
      show own_G p e below _ T18 (mkF m 114 #[.val (.int i0), .val (.int i1), .val (.int ((96 : Int32) + (((Jvm.Free.XT.ushr (Jvm.Free.XT.ushr i1 (1 : Int32)) (4 : Int32)) &&& (7 : Int32)) - (3 : Int32)))), .val (own_of a_VALUES a_BIND a_UNBIND a_SEARCH a_MODIFY a_ADD a_DELETE a_MODIFY_DN a_COMPARE a_ABANDON a_EXTENDED cl_VALUES ((96 : Int32) + (((Jvm.Free.XT.ushr (Jvm.Free.XT.ushr i1 (1 : Int32)) (4 : Int32)) &&& (7 : Int32)) - (3 : Int32)))), .val (.int (Jvm.Free.XT.ushr i1 (1 : Int32))), .val (.int (0 : Int32)), .val (.int (((Jvm.Free.XT.ushr (Jvm.Free.XT.ushr i1 (1 : Int32)) (4 : Int32)) &&& (7 : Int32)) - (3 : Int32)))] [])
      refine own_go (fun t k => XS.iconst X18.here hx rfl (hb hby at_114) k) ?_
      show own_G p e below _ T18 (mkF m 115 #[.val (.int i0), .val (.int i1), .val (.int ((96 : Int32) + (((Jvm.Free.XT.ushr (Jvm.Free.XT.ushr i1 (1 : Int32)) (4 : Int32)) &&& (7 : Int32)) - (3 : Int32)))), .val (own_of a_VALUES a_BIND a_UNBIND a_SEARCH a_MODIFY a_ADD a_DELETE a_MODIFY_DN a_COMPARE a_ABANDON a_EXTENDED cl_VALUES ((96 : Int32) + (((Jvm.Free.XT.ushr (Jvm.Free.XT.ushr i1 (1 : Int32)) (4 : Int32)) &&& (7 : Int32)) - (3 : Int32)))), .val (.int (Jvm.Free.XT.ushr i1 (1 : Int32))), .val (.int (0 : Int32)), .val (.int (((Jvm.Free.XT.ushr (Jvm.Free.XT.ushr i1 (1 : Int32)) (4 : Int32)) &&& (7 : Int32)) - (3 : Int32)))] [(.int (1 : Int32))])
      refine own_go (fun t k => XS.goto X18.here hx rfl (pc0 := 115) (pc' := 119) rfl (hb hby at_115) (by decide) (by decide) k) ?_
      show own_G p e below _ T18 (mkF m 119 #[.val (.int i0), .val (.int i1), .val (.int ((96 : Int32) + (((Jvm.Free.XT.ushr (Jvm.Free.XT.ushr i1 (1 : Int32)) (4 : Int32)) &&& (7 : Int32)) - (3 : Int32)))), .val (own_of a_VALUES a_BIND a_UNBIND a_SEARCH a_MODIFY a_ADD a_DELETE a_MODIFY_DN a_COMPARE a_ABANDON a_EXTENDED cl_VALUES ((96 : Int32) + (((Jvm.Free.XT.ushr (Jvm.Free.XT.ushr i1 (1 : Int32)) (4 : Int32)) &&& (7 : Int32)) - (3 : Int32)))), .val (.int (Jvm.Free.XT.ushr i1 (1 : Int32))), .val (.int (0 : Int32)), .val (.int (((Jvm.Free.XT.ushr (Jvm.Free.XT.ushr i1 (1 : Int32)) (4 : Int32)) &&& (7 : Int32)) - (3 : Int32)))] [(.int (1 : Int32))])
      exact own_retN X18 hx hlk hret (by simp) (hb hby at_119) (by decide) (by decide) ⟨rfl, N18⟩
    · rw [hk15]
      show own_G p e below _ T14 (mkF m 88 #[.val (.int i0), .val (.int i1), .unset, .val (.ref a4), .val (.int (Jvm.Free.XT.ushr i1 (1 : Int32))), .val (.int (1 : Int32)), .val (.int (((Jvm.Free.XT.ushr (Jvm.Free.XT.ushr i1 (1 : Int32)) (4 : Int32)) &&& (7 : Int32)) - (3 : Int32)))] [])
      refine own_go (fun t k => XS.aloadN X14.here hx rfl (hb hby at_88) rfl rfl k) ?_
      show own_G p e below _ T14 (mkF m 89 #[.val (.int i0), .val (.int i1), .unset, .val (.ref a4), .val (.int (Jvm.Free.XT.ushr i1 (1 : Int32))), .val (.int (1 : Int32)), .val (.int (((Jvm.Free.XT.ushr (Jvm.Free.XT.ushr i1 (1 : Int32)) (4 : Int32)) &&& (7 : Int32)) - (3 : Int32)))] [(.ref a4)])
      refine own_go (fun t k => XS.iload X14.here hx rfl (hb hby at_89) rfl k) ?_
      show own_G p e below _ T14 (mkF m 91 #[.val (.int i0), .val (.int i1), .unset, .val (.ref a4), .val (.int (Jvm.Free.XT.ushr i1 (1 : Int32))), .val (.int (1 : Int32)), .val (.int (((Jvm.Free.XT.ushr (Jvm.Free.XT.ushr i1 (1 : Int32)) (4 : Int32)) &&& (7 : Int32)) - (3 : Int32)))] [(.int (1 : Int32)), (.ref a4)])
      refine own_go (X14.iaload hx (j := (1 : Int32)) (v := (.int (66 : Int32))) (own_cellAt e14 A14) (State.isArrayOf_alike hZ.alike A14.2.1) A14.2.2 (own_in (n := 10) rfl (by decide)) rfl (g := (mkF m 91 #[.val (.int i0), .val (.int i1), .unset, .val (.ref a4), .val (.int (Jvm.Free.XT.ushr i1 (1 : Int32))), .val (.int (1 : Int32)), .val (.int (((Jvm.Free.XT.ushr (Jvm.Free.XT.ushr i1 (1 : Int32)) (4 : Int32)) &&& (7 : Int32)) - (3 : Int32)))] [(.int (1 : Int32)), (.ref a4)])) rfl rfl (hb hby at_91)) ?_
      show own_G p e below _ T14 (mkF m 92 #[.val (.int i0), .val (.int i1), .unset, .val (.ref a4), .val (.int (Jvm.Free.XT.ushr i1 (1 : Int32))), .val (.int (1 : Int32)), .val (.int (((Jvm.Free.XT.ushr (Jvm.Free.XT.ushr i1 (1 : Int32)) (4 : Int32)) &&& (7 : Int32)) - (3 : Int32)))] [(.int (66 : Int32))])
      refine own_go (fun t k => XS.iload X14.here hx rfl (hb hby at_92) rfl k) ?_
      show own_G p e below _ T14 (mkF m 94 #[.val (.int i0), .val (.int i1), .unset, .val (.ref a4), .val (.int (Jvm.Free.XT.ushr i1 (1 : Int32))), .val (.int (1 : Int32)), .val (.int (((Jvm.Free.XT.ushr (Jvm.Free.XT.ushr i1 (1 : Int32)) (4 : Int32)) &&& (7 : Int32)) - (3 : Int32)))] [(.int (((Jvm.Free.XT.ushr (Jvm.Free.XT.ushr i1 (1 : Int32)) (4 : Int32)) &&& (7 : Int32)) - (3 : Int32))), (.int (66 : Int32))])
      refine own_go (fun t k => XS.iadd X14.here hx rfl (hb hby at_94) rfl k) ?_
      show own_G p e below _ T14 (mkF m 95 #[.val (.int i0), .val (.int i1), .unset, .val (.ref a4), .val (.int (Jvm.Free.XT.ushr i1 (1 : Int32))), .val (.int (1 : Int32)), .val (.int (((Jvm.Free.XT.ushr (Jvm.Free.XT.ushr i1 (1 : Int32)) (4 : Int32)) &&& (7 : Int32)) - (3 : Int32)))] [(.int ((66 : Int32) + (((Jvm.Free.XT.ushr (Jvm.Free.XT.ushr i1 (1 : Int32)) (4 : Int32)) &&& (7 : Int32)) - (3 : Int32))))])
      refine own_go (fun t k => XS.istoreN X14.here hx rfl (hb hby at_95) rfl (l' := #[.val (.int i0), .val (.int i1), .val (.int ((66 : Int32) + (((Jvm.Free.XT.ushr (Jvm.Free.XT.ushr i1 (1 : Int32)) (4 : Int32)) &&& (7 : Int32)) - (3 : Int32)))), .val (.ref a4), .val (.int (Jvm.Free.XT.ushr i1 (1 : Int32))), .val (.int (1 : Int32)), .val (.int (((Jvm.Free.XT.ushr (Jvm.Free.XT.ushr i1 (1 : Int32)) (4 : Int32)) &&& (7 : Int32)) - (3 : Int32)))]) rfl k) ?_
      show own_G p e below _ T14 (mkF m 96 #[.val (.int i0), .val (.int i1), .val (.int ((66 : Int32) + (((Jvm.Free.XT.ushr (Jvm.Free.XT.ushr i1 (1 : Int32)) (4 : Int32)) &&& (7 : Int32)) - (3 : Int32)))), .val (.ref a4), .val (.int (Jvm.Free.XT.ushr i1 (1 : Int32))), .val (.int (1 : Int32)), .val (.int (((Jvm.Free.XT.ushr (Jvm.Free.XT.ushr i1 (1 : Int32)) (4 : Int32)) &&& (7 : Int32)) - (3 : Int32)))] [])
      refine own_go (fun t k => XS.goto X14.here hx rfl (pc0 := 96) (pc' := 101) rfl (hb hby at_96) (by decide) (by decide) k) ?_
      show own_G p e below _ T14 (mkF m 101 #[.val (.int i0), .val (.int i1), .val (.int ((66 : Int32) + (((Jvm.Free.XT.ushr (Jvm.Free.XT.ushr i1 (1 : Int32)) (4 : Int32)) &&& (7 : Int32)) - (3 : Int32)))), .val (.ref a4), .val (.int (Jvm.Free.XT.ushr i1 (1 : Int32))), .val (.int (1 : Int32)), .val (.int (((Jvm.Free.XT.ushr (Jvm.Free.XT.ushr i1 (1 : Int32)) (4 : Int32)) &&& (7 : Int32)) - (3 : Int32)))] [])
      refine own_go (fun t k => XS.iloadN X14.here hx rfl (hb hby at_101) rfl k) ?_
      show own_G p e below _ T14 (mkF m 102 #[.val (.int i0), .val (.int i1), .val (.int ((66 : Int32) + (((Jvm.Free.XT.ushr (Jvm.Free.XT.ushr i1 (1 : Int32)) (4 : Int32)) &&& (7 : Int32)) - (3 : Int32)))), .val (.ref a4), .val (.int (Jvm.Free.XT.ushr i1 (1 : Int32))), .val (.int (1 : Int32)), .val (.int (((Jvm.Free.XT.ushr (Jvm.Free.XT.ushr i1 (1 : Int32)) (4 : Int32)) &&& (7 : Int32)) - (3 : Int32)))] [(.int ((66 : Int32) + (((Jvm.Free.XT.ushr (Jvm.Free.XT.ushr i1 (1 : Int32)) (4 : Int32)) &&& (7 : Int32)) - (3 : Int32))))])
      obtain ⟨T19, L19, v19, X19, ⟨rfl, rfl, q19⟩, st19⟩ := own_callS X14 hx hZ (y := (⟨"com/example/canonry/canonry/Operation", "ofRequestTag", "(I)Lcom/example/canonry/canonry/Operation;"⟩ : MethodName)) hown (hw _ (List.mem_of_getElem? (i := 1) rfl)) (hw _ (List.mem_of_getElem? (i := 2) rfl)) (hw _ (List.mem_of_getElem? (i := 3) rfl)) (hw _ (List.mem_of_getElem? (i := 4) rfl)) (by decide) (c_of l Z a0 hw a_VALUES a_BIND a_UNBIND a_SEARCH a_MODIFY a_ADD a_DELETE a_MODIFY_DN a_COMPARE a_ABANDON a_EXTENDED cl_VALUES ((66 : Int32) + (((Jvm.Free.XT.ushr (Jvm.Free.XT.ushr i1 (1 : Int32)) (4 : Int32)) &&& (7 : Int32)) - (3 : Int32))) h14 (own_B_ext x14 B) ) e14 (argsL := [(.int ((66 : Int32) + (((Jvm.Free.XT.ushr (Jvm.Free.XT.ushr i1 (1 : Int32)) (4 : Int32)) &&& (7 : Int32)) - (3 : Int32))))]) (rest := []) (g := (mkF m 102 #[.val (.int i0), .val (.int i1), .val (.int ((66 : Int32) + (((Jvm.Free.XT.ushr (Jvm.Free.XT.ushr i1 (1 : Int32)) (4 : Int32)) &&& (7 : Int32)) - (3 : Int32)))), .val (.ref a4), .val (.int (Jvm.Free.XT.ushr i1 (1 : Int32))), .val (.int (1 : Int32)), .val (.int (((Jvm.Free.XT.ushr (Jvm.Free.XT.ushr i1 (1 : Int32)) (4 : Int32)) &&& (7 : Int32)) - (3 : Int32)))] [(.int ((66 : Int32) + (((Jvm.Free.XT.ushr (Jvm.Free.XT.ushr i1 (1 : Int32)) (4 : Int32)) &&& (7 : Int32)) - (3 : Int32))))])) rfl (by rw [hml]; rfl) (ps := [.int]) (r := (some (.object "com/example/canonry/canonry/Operation"))) (by decide +kernel) rfl rfl (W := 0) (by show 2 * 0 + _ ≤ _; exact Nat.le_of_eq rfl) (hb hby at_102) (by decide) (by decide) (by decide) (by decide)
      have x19 := own_ext_trans x14 q19
      have A20 := A14.ext q19
      have N19 := Fr.app N14 (Fr.nil n0)
      refine own_go st19 ?_
      show own_G p e below _ T19 (mkF m 105 #[.val (.int i0), .val (.int i1), .val (.int ((66 : Int32) + (((Jvm.Free.XT.ushr (Jvm.Free.XT.ushr i1 (1 : Int32)) (4 : Int32)) &&& (7 : Int32)) - (3 : Int32)))), .val (.ref a4), .val (.int (Jvm.Free.XT.ushr i1 (1 : Int32))), .val (.int (1 : Int32)), .val (.int (((Jvm.Free.XT.ushr (Jvm.Free.XT.ushr i1 (1 : Int32)) (4 : Int32)) &&& (7 : Int32)) - (3 : Int32)))] [(own_of a_VALUES a_BIND a_UNBIND a_SEARCH a_MODIFY a_ADD a_DELETE a_MODIFY_DN a_COMPARE a_ABANDON a_EXTENDED cl_VALUES ((66 : Int32) + (((Jvm.Free.XT.ushr (Jvm.Free.XT.ushr i1 (1 : Int32)) (4 : Int32)) &&& (7 : Int32)) - (3 : Int32))))])
      refine own_go (fun t k => XS.astoreN X19.here hx rfl (hb hby at_105) rfl (own_of_ref a_VALUES a_BIND a_UNBIND a_SEARCH a_MODIFY a_ADD a_DELETE a_MODIFY_DN a_COMPARE a_ABANDON a_EXTENDED cl_VALUES ((66 : Int32) + (((Jvm.Free.XT.ushr (Jvm.Free.XT.ushr i1 (1 : Int32)) (4 : Int32)) &&& (7 : Int32)) - (3 : Int32)))) (l' := #[.val (.int i0), .val (.int i1), .val (.int ((66 : Int32) + (((Jvm.Free.XT.ushr (Jvm.Free.XT.ushr i1 (1 : Int32)) (4 : Int32)) &&& (7 : Int32)) - (3 : Int32)))), .val (own_of a_VALUES a_BIND a_UNBIND a_SEARCH a_MODIFY a_ADD a_DELETE a_MODIFY_DN a_COMPARE a_ABANDON a_EXTENDED cl_VALUES ((66 : Int32) + (((Jvm.Free.XT.ushr (Jvm.Free.XT.ushr i1 (1 : Int32)) (4 : Int32)) &&& (7 : Int32)) - (3 : Int32)))), .val (.int (Jvm.Free.XT.ushr i1 (1 : Int32))), .val (.int (1 : Int32)), .val (.int (((Jvm.Free.XT.ushr (Jvm.Free.XT.ushr i1 (1 : Int32)) (4 : Int32)) &&& (7 : Int32)) - (3 : Int32)))]) (XS.store1 (o := .val (.ref a4)) rfl (Or.inr ⟨_, rfl, rfl⟩) (own_cat (own_of_ref a_VALUES a_BIND a_UNBIND a_SEARCH a_MODIFY a_ADD a_DELETE a_MODIFY_DN a_COMPARE a_ABANDON a_EXTENDED cl_VALUES ((66 : Int32) + (((Jvm.Free.XT.ushr (Jvm.Free.XT.ushr i1 (1 : Int32)) (4 : Int32)) &&& (7 : Int32)) - (3 : Int32)))))) k) ?_
      show own_G p e below _ T19 (mkF m 106 #[.val (.int i0), .val (.int i1), .val (.int ((66 : Int32) + (((Jvm.Free.XT.ushr (Jvm.Free.XT.ushr i1 (1 : Int32)) (4 : Int32)) &&& (7 : Int32)) - (3 : Int32)))), .val (own_of a_VALUES a_BIND a_UNBIND a_SEARCH a_MODIFY a_ADD a_DELETE a_MODIFY_DN a_COMPARE a_ABANDON a_EXTENDED cl_VALUES ((66 : Int32) + (((Jvm.Free.XT.ushr (Jvm.Free.XT.ushr i1 (1 : Int32)) (4 : Int32)) &&& (7 : Int32)) - (3 : Int32)))), .val (.int (Jvm.Free.XT.ushr i1 (1 : Int32))), .val (.int (1 : Int32)), .val (.int (((Jvm.Free.XT.ushr (Jvm.Free.XT.ushr i1 (1 : Int32)) (4 : Int32)) &&& (7 : Int32)) - (3 : Int32)))] [])
      refine own_go (fun t k => XS.aloadN X19.here hx rfl (hb hby at_106) rfl (own_of_ref a_VALUES a_BIND a_UNBIND a_SEARCH a_MODIFY a_ADD a_DELETE a_MODIFY_DN a_COMPARE a_ABANDON a_EXTENDED cl_VALUES ((66 : Int32) + (((Jvm.Free.XT.ushr (Jvm.Free.XT.ushr i1 (1 : Int32)) (4 : Int32)) &&& (7 : Int32)) - (3 : Int32)))) k) ?_
      show own_G p e below _ T19 (mkF m 107 #[.val (.int i0), .val (.int i1), .val (.int ((66 : Int32) + (((Jvm.Free.XT.ushr (Jvm.Free.XT.ushr i1 (1 : Int32)) (4 : Int32)) &&& (7 : Int32)) - (3 : Int32)))), .val (own_of a_VALUES a_BIND a_UNBIND a_SEARCH a_MODIFY a_ADD a_DELETE a_MODIFY_DN a_COMPARE a_ABANDON a_EXTENDED cl_VALUES ((66 : Int32) + (((Jvm.Free.XT.ushr (Jvm.Free.XT.ushr i1 (1 : Int32)) (4 : Int32)) &&& (7 : Int32)) - (3 : Int32)))), .val (.int (Jvm.Free.XT.ushr i1 (1 : Int32))), .val (.int (1 : Int32)), .val (.int (((Jvm.Free.XT.ushr (Jvm.Free.XT.ushr i1 (1 : Int32)) (4 : Int32)) &&& (7 : Int32)) - (3 : Int32)))] [(own_of a_VALUES a_BIND a_UNBIND a_SEARCH a_MODIFY a_ADD a_DELETE a_MODIFY_DN a_COMPARE a_ABANDON a_EXTENDED cl_VALUES ((66 : Int32) + (((Jvm.Free.XT.ushr (Jvm.Free.XT.ushr i1 (1 : Int32)) (4 : Int32)) &&& (7 : Int32)) - (3 : Int32))))])
      refine own_go (fun t k => XS.iloadN X19.here hx rfl (hb hby at_107) rfl k) ?_
      show own_G p e below _ T19 (mkF m 108 #[.val (.int i0), .val (.int i1), .val (.int ((66 : Int32) + (((Jvm.Free.XT.ushr (Jvm.Free.XT.ushr i1 (1 : Int32)) (4 : Int32)) &&& (7 : Int32)) - (3 : Int32)))), .val (own_of a_VALUES a_BIND a_UNBIND a_SEARCH a_MODIFY a_ADD a_DELETE a_MODIFY_DN a_COMPARE a_ABANDON a_EXTENDED cl_VALUES ((66 : Int32) + (((Jvm.Free.XT.ushr (Jvm.Free.XT.ushr i1 (1 : Int32)) (4 : Int32)) &&& (7 : Int32)) - (3 : Int32)))), .val (.int (Jvm.Free.XT.ushr i1 (1 : Int32))), .val (.int (1 : Int32)), .val (.int (((Jvm.Free.XT.ushr (Jvm.Free.XT.ushr i1 (1 : Int32)) (4 : Int32)) &&& (7 : Int32)) - (3 : Int32)))] [(.int ((66 : Int32) + (((Jvm.Free.XT.ushr (Jvm.Free.XT.ushr i1 (1 : Int32)) (4 : Int32)) &&& (7 : Int32)) - (3 : Int32)))), (own_of a_VALUES a_BIND a_UNBIND a_SEARCH a_MODIFY a_ADD a_DELETE a_MODIFY_DN a_COMPARE a_ABANDON a_EXTENDED cl_VALUES ((66 : Int32) + (((Jvm.Free.XT.ushr (Jvm.Free.XT.ushr i1 (1 : Int32)) (4 : Int32)) &&& (7 : Int32)) - (3 : Int32))))])
      obtain ⟨T21, L21, v21, X21, ⟨rfl, rfl, q21⟩, st21⟩ := own_callS X19 hx hZ (y := (⟨"com/example/canonry/canonry/OperationOfRequestTagPinLaw", "expected", "(I)Lcom/example/canonry/canonry/Operation;"⟩ : MethodName)) hown (hw _ (List.mem_of_getElem? (i := 32) rfl)) (hw _ (List.mem_of_getElem? (i := 33) rfl)) (hw _ (List.mem_of_getElem? (i := 34) rfl)) (hw _ (List.mem_of_getElem? (i := 35) rfl)) (by decide) (c_exp l Z a0 hw a_VALUES a_BIND a_UNBIND a_SEARCH a_MODIFY a_ADD a_DELETE a_MODIFY_DN a_COMPARE a_ABANDON a_EXTENDED cl_VALUES ((66 : Int32) + (((Jvm.Free.XT.ushr (Jvm.Free.XT.ushr i1 (1 : Int32)) (4 : Int32)) &&& (7 : Int32)) - (3 : Int32))) T19.heap (own_B_ext x19 B) ) rfl (argsL := [(.int ((66 : Int32) + (((Jvm.Free.XT.ushr (Jvm.Free.XT.ushr i1 (1 : Int32)) (4 : Int32)) &&& (7 : Int32)) - (3 : Int32))))]) (rest := [(own_of a_VALUES a_BIND a_UNBIND a_SEARCH a_MODIFY a_ADD a_DELETE a_MODIFY_DN a_COMPARE a_ABANDON a_EXTENDED cl_VALUES ((66 : Int32) + (((Jvm.Free.XT.ushr (Jvm.Free.XT.ushr i1 (1 : Int32)) (4 : Int32)) &&& (7 : Int32)) - (3 : Int32))))]) (g := (mkF m 108 #[.val (.int i0), .val (.int i1), .val (.int ((66 : Int32) + (((Jvm.Free.XT.ushr (Jvm.Free.XT.ushr i1 (1 : Int32)) (4 : Int32)) &&& (7 : Int32)) - (3 : Int32)))), .val (own_of a_VALUES a_BIND a_UNBIND a_SEARCH a_MODIFY a_ADD a_DELETE a_MODIFY_DN a_COMPARE a_ABANDON a_EXTENDED cl_VALUES ((66 : Int32) + (((Jvm.Free.XT.ushr (Jvm.Free.XT.ushr i1 (1 : Int32)) (4 : Int32)) &&& (7 : Int32)) - (3 : Int32)))), .val (.int (Jvm.Free.XT.ushr i1 (1 : Int32))), .val (.int (1 : Int32)), .val (.int (((Jvm.Free.XT.ushr (Jvm.Free.XT.ushr i1 (1 : Int32)) (4 : Int32)) &&& (7 : Int32)) - (3 : Int32)))] [(.int ((66 : Int32) + (((Jvm.Free.XT.ushr (Jvm.Free.XT.ushr i1 (1 : Int32)) (4 : Int32)) &&& (7 : Int32)) - (3 : Int32)))), (own_of a_VALUES a_BIND a_UNBIND a_SEARCH a_MODIFY a_ADD a_DELETE a_MODIFY_DN a_COMPARE a_ABANDON a_EXTENDED cl_VALUES ((66 : Int32) + (((Jvm.Free.XT.ushr (Jvm.Free.XT.ushr i1 (1 : Int32)) (4 : Int32)) &&& (7 : Int32)) - (3 : Int32))))])) rfl (by rw [hml]; rfl) (ps := [.int]) (r := (some (.object "com/example/canonry/canonry/Operation"))) (by decide +kernel) rfl rfl (W := 1) (by show 2 * 0 + _ ≤ _; simp [own_cat (own_of_ref a_VALUES a_BIND a_UNBIND a_SEARCH a_MODIFY a_ADD a_DELETE a_MODIFY_DN a_COMPARE a_ABANDON a_EXTENDED cl_VALUES ((66 : Int32) + (((Jvm.Free.XT.ushr (Jvm.Free.XT.ushr i1 (1 : Int32)) (4 : Int32)) &&& (7 : Int32)) - (3 : Int32))))]) (hb hby at_108) (by decide) (by decide) (by decide) (by decide)
      have N21 := Fr.app N19 (Fr.nil n0)
      refine own_go st21 ?_
      show own_G p e below _ T21 (mkF m 111 #[.val (.int i0), .val (.int i1), .val (.int ((66 : Int32) + (((Jvm.Free.XT.ushr (Jvm.Free.XT.ushr i1 (1 : Int32)) (4 : Int32)) &&& (7 : Int32)) - (3 : Int32)))), .val (own_of a_VALUES a_BIND a_UNBIND a_SEARCH a_MODIFY a_ADD a_DELETE a_MODIFY_DN a_COMPARE a_ABANDON a_EXTENDED cl_VALUES ((66 : Int32) + (((Jvm.Free.XT.ushr (Jvm.Free.XT.ushr i1 (1 : Int32)) (4 : Int32)) &&& (7 : Int32)) - (3 : Int32)))), .val (.int (Jvm.Free.XT.ushr i1 (1 : Int32))), .val (.int (1 : Int32)), .val (.int (((Jvm.Free.XT.ushr (Jvm.Free.XT.ushr i1 (1 : Int32)) (4 : Int32)) &&& (7 : Int32)) - (3 : Int32)))] [(own_exp a_VALUES a_BIND a_UNBIND a_SEARCH a_MODIFY a_ADD a_DELETE a_MODIFY_DN a_COMPARE a_ABANDON a_EXTENDED cl_VALUES ((66 : Int32) + (((Jvm.Free.XT.ushr (Jvm.Free.XT.ushr i1 (1 : Int32)) (4 : Int32)) &&& (7 : Int32)) - (3 : Int32)))), (own_of a_VALUES a_BIND a_UNBIND a_SEARCH a_MODIFY a_ADD a_DELETE a_MODIFY_DN a_COMPARE a_ABANDON a_EXTENDED cl_VALUES ((66 : Int32) + (((Jvm.Free.XT.ushr (Jvm.Free.XT.ushr i1 (1 : Int32)) (4 : Int32)) &&& (7 : Int32)) - (3 : Int32))))])
      refine own_go (fun t k => Jvm.Free.XT.acmpNo X21.here hx rfl (hb hby at_111) rfl (own_of_ref a_VALUES a_BIND a_UNBIND a_SEARCH a_MODIFY a_ADD a_DELETE a_MODIFY_DN a_COMPARE a_ABANDON a_EXTENDED cl_VALUES ((66 : Int32) + (((Jvm.Free.XT.ushr (Jvm.Free.XT.ushr i1 (1 : Int32)) (4 : Int32)) &&& (7 : Int32)) - (3 : Int32)))) (own_exp_ref a_VALUES a_BIND a_UNBIND a_SEARCH a_MODIFY a_ADD a_DELETE a_MODIFY_DN a_COMPARE a_ABANDON a_EXTENDED cl_VALUES ((66 : Int32) + (((Jvm.Free.XT.ushr (Jvm.Free.XT.ushr i1 (1 : Int32)) (4 : Int32)) &&& (7 : Int32)) - (3 : Int32)))) (own_acVF (own_same a_VALUES a_BIND a_UNBIND a_SEARCH a_MODIFY a_ADD a_DELETE a_MODIFY_DN a_COMPARE a_ABANDON a_EXTENDED cl_VALUES ((66 : Int32) + (((Jvm.Free.XT.ushr (Jvm.Free.XT.ushr i1 (1 : Int32)) (4 : Int32)) &&& (7 : Int32)) - (3 : Int32))))) k) ?_
      show own_G p e below _ T21 (mkF m 114 #[.val (.int i0), .val (.int i1), .val (.int ((66 : Int32) + (((Jvm.Free.XT.ushr (Jvm.Free.XT.ushr i1 (1 : Int32)) (4 : Int32)) &&& (7 : Int32)) - (3 : Int32)))), .val (own_of a_VALUES a_BIND a_UNBIND a_SEARCH a_MODIFY a_ADD a_DELETE a_MODIFY_DN a_COMPARE a_ABANDON a_EXTENDED cl_VALUES ((66 : Int32) + (((Jvm.Free.XT.ushr (Jvm.Free.XT.ushr i1 (1 : Int32)) (4 : Int32)) &&& (7 : Int32)) - (3 : Int32)))), .val (.int (Jvm.Free.XT.ushr i1 (1 : Int32))), .val (.int (1 : Int32)), .val (.int (((Jvm.Free.XT.ushr (Jvm.Free.XT.ushr i1 (1 : Int32)) (4 : Int32)) &&& (7 : Int32)) - (3 : Int32)))] [])
      refine own_go (fun t k => XS.iconst X21.here hx rfl (hb hby at_114) k) ?_
      show own_G p e below _ T21 (mkF m 115 #[.val (.int i0), .val (.int i1), .val (.int ((66 : Int32) + (((Jvm.Free.XT.ushr (Jvm.Free.XT.ushr i1 (1 : Int32)) (4 : Int32)) &&& (7 : Int32)) - (3 : Int32)))), .val (own_of a_VALUES a_BIND a_UNBIND a_SEARCH a_MODIFY a_ADD a_DELETE a_MODIFY_DN a_COMPARE a_ABANDON a_EXTENDED cl_VALUES ((66 : Int32) + (((Jvm.Free.XT.ushr (Jvm.Free.XT.ushr i1 (1 : Int32)) (4 : Int32)) &&& (7 : Int32)) - (3 : Int32)))), .val (.int (Jvm.Free.XT.ushr i1 (1 : Int32))), .val (.int (1 : Int32)), .val (.int (((Jvm.Free.XT.ushr (Jvm.Free.XT.ushr i1 (1 : Int32)) (4 : Int32)) &&& (7 : Int32)) - (3 : Int32)))] [(.int (1 : Int32))])
      refine own_go (fun t k => XS.goto X21.here hx rfl (pc0 := 115) (pc' := 119) rfl (hb hby at_115) (by decide) (by decide) k) ?_
      show own_G p e below _ T21 (mkF m 119 #[.val (.int i0), .val (.int i1), .val (.int ((66 : Int32) + (((Jvm.Free.XT.ushr (Jvm.Free.XT.ushr i1 (1 : Int32)) (4 : Int32)) &&& (7 : Int32)) - (3 : Int32)))), .val (own_of a_VALUES a_BIND a_UNBIND a_SEARCH a_MODIFY a_ADD a_DELETE a_MODIFY_DN a_COMPARE a_ABANDON a_EXTENDED cl_VALUES ((66 : Int32) + (((Jvm.Free.XT.ushr (Jvm.Free.XT.ushr i1 (1 : Int32)) (4 : Int32)) &&& (7 : Int32)) - (3 : Int32)))), .val (.int (Jvm.Free.XT.ushr i1 (1 : Int32))), .val (.int (1 : Int32)), .val (.int (((Jvm.Free.XT.ushr (Jvm.Free.XT.ushr i1 (1 : Int32)) (4 : Int32)) &&& (7 : Int32)) - (3 : Int32)))] [(.int (1 : Int32))])
      exact own_retN X21 hx hlk hret (by simp) (hb hby at_119) (by decide) (by decide) ⟨rfl, N21⟩
    · rw [hk15]
      show own_G p e below _ T14 (mkF m 88 #[.val (.int i0), .val (.int i1), .unset, .val (.ref a4), .val (.int (Jvm.Free.XT.ushr i1 (1 : Int32))), .val (.int (2 : Int32)), .val (.int (((Jvm.Free.XT.ushr (Jvm.Free.XT.ushr i1 (1 : Int32)) (4 : Int32)) &&& (7 : Int32)) - (3 : Int32)))] [])
      refine own_go (fun t k => XS.aloadN X14.here hx rfl (hb hby at_88) rfl rfl k) ?_
      show own_G p e below _ T14 (mkF m 89 #[.val (.int i0), .val (.int i1), .unset, .val (.ref a4), .val (.int (Jvm.Free.XT.ushr i1 (1 : Int32))), .val (.int (2 : Int32)), .val (.int (((Jvm.Free.XT.ushr (Jvm.Free.XT.ushr i1 (1 : Int32)) (4 : Int32)) &&& (7 : Int32)) - (3 : Int32)))] [(.ref a4)])
      refine own_go (fun t k => XS.iload X14.here hx rfl (hb hby at_89) rfl k) ?_
      show own_G p e below _ T14 (mkF m 91 #[.val (.int i0), .val (.int i1), .unset, .val (.ref a4), .val (.int (Jvm.Free.XT.ushr i1 (1 : Int32))), .val (.int (2 : Int32)), .val (.int (((Jvm.Free.XT.ushr (Jvm.Free.XT.ushr i1 (1 : Int32)) (4 : Int32)) &&& (7 : Int32)) - (3 : Int32)))] [(.int (2 : Int32)), (.ref a4)])
      refine own_go (X14.iaload hx (j := (2 : Int32)) (v := (.int (99 : Int32))) (own_cellAt e14 A14) (State.isArrayOf_alike hZ.alike A14.2.1) A14.2.2 (own_in (n := 10) rfl (by decide)) rfl (g := (mkF m 91 #[.val (.int i0), .val (.int i1), .unset, .val (.ref a4), .val (.int (Jvm.Free.XT.ushr i1 (1 : Int32))), .val (.int (2 : Int32)), .val (.int (((Jvm.Free.XT.ushr (Jvm.Free.XT.ushr i1 (1 : Int32)) (4 : Int32)) &&& (7 : Int32)) - (3 : Int32)))] [(.int (2 : Int32)), (.ref a4)])) rfl rfl (hb hby at_91)) ?_
      show own_G p e below _ T14 (mkF m 92 #[.val (.int i0), .val (.int i1), .unset, .val (.ref a4), .val (.int (Jvm.Free.XT.ushr i1 (1 : Int32))), .val (.int (2 : Int32)), .val (.int (((Jvm.Free.XT.ushr (Jvm.Free.XT.ushr i1 (1 : Int32)) (4 : Int32)) &&& (7 : Int32)) - (3 : Int32)))] [(.int (99 : Int32))])
      refine own_go (fun t k => XS.iload X14.here hx rfl (hb hby at_92) rfl k) ?_
      show own_G p e below _ T14 (mkF m 94 #[.val (.int i0), .val (.int i1), .unset, .val (.ref a4), .val (.int (Jvm.Free.XT.ushr i1 (1 : Int32))), .val (.int (2 : Int32)), .val (.int (((Jvm.Free.XT.ushr (Jvm.Free.XT.ushr i1 (1 : Int32)) (4 : Int32)) &&& (7 : Int32)) - (3 : Int32)))] [(.int (((Jvm.Free.XT.ushr (Jvm.Free.XT.ushr i1 (1 : Int32)) (4 : Int32)) &&& (7 : Int32)) - (3 : Int32))), (.int (99 : Int32))])
      refine own_go (fun t k => XS.iadd X14.here hx rfl (hb hby at_94) rfl k) ?_
      show own_G p e below _ T14 (mkF m 95 #[.val (.int i0), .val (.int i1), .unset, .val (.ref a4), .val (.int (Jvm.Free.XT.ushr i1 (1 : Int32))), .val (.int (2 : Int32)), .val (.int (((Jvm.Free.XT.ushr (Jvm.Free.XT.ushr i1 (1 : Int32)) (4 : Int32)) &&& (7 : Int32)) - (3 : Int32)))] [(.int ((99 : Int32) + (((Jvm.Free.XT.ushr (Jvm.Free.XT.ushr i1 (1 : Int32)) (4 : Int32)) &&& (7 : Int32)) - (3 : Int32))))])
      refine own_go (fun t k => XS.istoreN X14.here hx rfl (hb hby at_95) rfl (l' := #[.val (.int i0), .val (.int i1), .val (.int ((99 : Int32) + (((Jvm.Free.XT.ushr (Jvm.Free.XT.ushr i1 (1 : Int32)) (4 : Int32)) &&& (7 : Int32)) - (3 : Int32)))), .val (.ref a4), .val (.int (Jvm.Free.XT.ushr i1 (1 : Int32))), .val (.int (2 : Int32)), .val (.int (((Jvm.Free.XT.ushr (Jvm.Free.XT.ushr i1 (1 : Int32)) (4 : Int32)) &&& (7 : Int32)) - (3 : Int32)))]) rfl k) ?_
      show own_G p e below _ T14 (mkF m 96 #[.val (.int i0), .val (.int i1), .val (.int ((99 : Int32) + (((Jvm.Free.XT.ushr (Jvm.Free.XT.ushr i1 (1 : Int32)) (4 : Int32)) &&& (7 : Int32)) - (3 : Int32)))), .val (.ref a4), .val (.int (Jvm.Free.XT.ushr i1 (1 : Int32))), .val (.int (2 : Int32)), .val (.int (((Jvm.Free.XT.ushr (Jvm.Free.XT.ushr i1 (1 : Int32)) (4 : Int32)) &&& (7 : Int32)) - (3 : Int32)))] [])
      refine own_go (fun t k => XS.goto X14.here hx rfl (pc0 := 96) (pc' := 101) rfl (hb hby at_96) (by decide) (by decide) k) ?_
      show own_G p e below _ T14 (mkF m 101 #[.val (.int i0), .val (.int i1), .val (.int ((99 : Int32) + (((Jvm.Free.XT.ushr (Jvm.Free.XT.ushr i1 (1 : Int32)) (4 : Int32)) &&& (7 : Int32)) - (3 : Int32)))), .val (.ref a4), .val (.int (Jvm.Free.XT.ushr i1 (1 : Int32))), .val (.int (2 : Int32)), .val (.int (((Jvm.Free.XT.ushr (Jvm.Free.XT.ushr i1 (1 : Int32)) (4 : Int32)) &&& (7 : Int32)) - (3 : Int32)))] [])
      refine own_go (fun t k => XS.iloadN X14.here hx rfl (hb hby at_101) rfl k) ?_
      show own_G p e below _ T14 (mkF m 102 #[.val (.int i0), .val (.int i1), .val (.int ((99 : Int32) + (((Jvm.Free.XT.ushr (Jvm.Free.XT.ushr i1 (1 : Int32)) (4 : Int32)) &&& (7 : Int32)) - (3 : Int32)))), .val (.ref a4), .val (.int (Jvm.Free.XT.ushr i1 (1 : Int32))), .val (.int (2 : Int32)), .val (.int (((Jvm.Free.XT.ushr (Jvm.Free.XT.ushr i1 (1 : Int32)) (4 : Int32)) &&& (7 : Int32)) - (3 : Int32)))] [(.int ((99 : Int32) + (((Jvm.Free.XT.ushr (Jvm.Free.XT.ushr i1 (1 : Int32)) (4 : Int32)) &&& (7 : Int32)) - (3 : Int32))))])
      obtain ⟨T22, L22, v22, X22, ⟨rfl, rfl, q22⟩, st22⟩ := own_callS X14 hx hZ (y := (⟨"com/example/canonry/canonry/Operation", "ofRequestTag", "(I)Lcom/example/canonry/canonry/Operation;"⟩ : MethodName)) hown (hw _ (List.mem_of_getElem? (i := 1) rfl)) (hw _ (List.mem_of_getElem? (i := 2) rfl)) (hw _ (List.mem_of_getElem? (i := 3) rfl)) (hw _ (List.mem_of_getElem? (i := 4) rfl)) (by decide) (c_of l Z a0 hw a_VALUES a_BIND a_UNBIND a_SEARCH a_MODIFY a_ADD a_DELETE a_MODIFY_DN a_COMPARE a_ABANDON a_EXTENDED cl_VALUES ((99 : Int32) + (((Jvm.Free.XT.ushr (Jvm.Free.XT.ushr i1 (1 : Int32)) (4 : Int32)) &&& (7 : Int32)) - (3 : Int32))) h14 (own_B_ext x14 B) ) e14 (argsL := [(.int ((99 : Int32) + (((Jvm.Free.XT.ushr (Jvm.Free.XT.ushr i1 (1 : Int32)) (4 : Int32)) &&& (7 : Int32)) - (3 : Int32))))]) (rest := []) (g := (mkF m 102 #[.val (.int i0), .val (.int i1), .val (.int ((99 : Int32) + (((Jvm.Free.XT.ushr (Jvm.Free.XT.ushr i1 (1 : Int32)) (4 : Int32)) &&& (7 : Int32)) - (3 : Int32)))), .val (.ref a4), .val (.int (Jvm.Free.XT.ushr i1 (1 : Int32))), .val (.int (2 : Int32)), .val (.int (((Jvm.Free.XT.ushr (Jvm.Free.XT.ushr i1 (1 : Int32)) (4 : Int32)) &&& (7 : Int32)) - (3 : Int32)))] [(.int ((99 : Int32) + (((Jvm.Free.XT.ushr (Jvm.Free.XT.ushr i1 (1 : Int32)) (4 : Int32)) &&& (7 : Int32)) - (3 : Int32))))])) rfl (by rw [hml]; rfl) (ps := [.int]) (r := (some (.object "com/example/canonry/canonry/Operation"))) (by decide +kernel) rfl rfl (W := 0) (by show 2 * 0 + _ ≤ _; exact Nat.le_of_eq rfl) (hb hby at_102) (by decide) (by decide) (by decide) (by decide)
      have x22 := own_ext_trans x14 q22
      have A23 := A14.ext q22
      have N22 := Fr.app N14 (Fr.nil n0)
      refine own_go st22 ?_
      show own_G p e below _ T22 (mkF m 105 #[.val (.int i0), .val (.int i1), .val (.int ((99 : Int32) + (((Jvm.Free.XT.ushr (Jvm.Free.XT.ushr i1 (1 : Int32)) (4 : Int32)) &&& (7 : Int32)) - (3 : Int32)))), .val (.ref a4), .val (.int (Jvm.Free.XT.ushr i1 (1 : Int32))), .val (.int (2 : Int32)), .val (.int (((Jvm.Free.XT.ushr (Jvm.Free.XT.ushr i1 (1 : Int32)) (4 : Int32)) &&& (7 : Int32)) - (3 : Int32)))] [(own_of a_VALUES a_BIND a_UNBIND a_SEARCH a_MODIFY a_ADD a_DELETE a_MODIFY_DN a_COMPARE a_ABANDON a_EXTENDED cl_VALUES ((99 : Int32) + (((Jvm.Free.XT.ushr (Jvm.Free.XT.ushr i1 (1 : Int32)) (4 : Int32)) &&& (7 : Int32)) - (3 : Int32))))])
      refine own_go (fun t k => XS.astoreN X22.here hx rfl (hb hby at_105) rfl (own_of_ref a_VALUES a_BIND a_UNBIND a_SEARCH a_MODIFY a_ADD a_DELETE a_MODIFY_DN a_COMPARE a_ABANDON a_EXTENDED cl_VALUES ((99 : Int32) + (((Jvm.Free.XT.ushr (Jvm.Free.XT.ushr i1 (1 : Int32)) (4 : Int32)) &&& (7 : Int32)) - (3 : Int32)))) (l' := #[.val (.int i0), .val (.int i1), .val (.int ((99 : Int32) + (((Jvm.Free.XT.ushr (Jvm.Free.XT.ushr i1 (1 : Int32)) (4 : Int32)) &&& (7 : Int32)) - (3 : Int32)))), .val (own_of a_VALUES a_BIND a_UNBIND a_SEARCH a_MODIFY a_ADD a_DELETE a_MODIFY_DN a_COMPARE a_ABANDON a_EXTENDED cl_VALUES ((99 : Int32) + (((Jvm.Free.XT.ushr (Jvm.Free.XT.ushr i1 (1 : Int32)) (4 : Int32)) &&& (7 : Int32)) - (3 : Int32)))), .val (.int (Jvm.Free.XT.ushr i1 (1 : Int32))), .val (.int (2 : Int32)), .val (.int (((Jvm.Free.XT.ushr (Jvm.Free.XT.ushr i1 (1 : Int32)) (4 : Int32)) &&& (7 : Int32)) - (3 : Int32)))]) (XS.store1 (o := .val (.ref a4)) rfl (Or.inr ⟨_, rfl, rfl⟩) (own_cat (own_of_ref a_VALUES a_BIND a_UNBIND a_SEARCH a_MODIFY a_ADD a_DELETE a_MODIFY_DN a_COMPARE a_ABANDON a_EXTENDED cl_VALUES ((99 : Int32) + (((Jvm.Free.XT.ushr (Jvm.Free.XT.ushr i1 (1 : Int32)) (4 : Int32)) &&& (7 : Int32)) - (3 : Int32)))))) k) ?_
      show own_G p e below _ T22 (mkF m 106 #[.val (.int i0), .val (.int i1), .val (.int ((99 : Int32) + (((Jvm.Free.XT.ushr (Jvm.Free.XT.ushr i1 (1 : Int32)) (4 : Int32)) &&& (7 : Int32)) - (3 : Int32)))), .val (own_of a_VALUES a_BIND a_UNBIND a_SEARCH a_MODIFY a_ADD a_DELETE a_MODIFY_DN a_COMPARE a_ABANDON a_EXTENDED cl_VALUES ((99 : Int32) + (((Jvm.Free.XT.ushr (Jvm.Free.XT.ushr i1 (1 : Int32)) (4 : Int32)) &&& (7 : Int32)) - (3 : Int32)))), .val (.int (Jvm.Free.XT.ushr i1 (1 : Int32))), .val (.int (2 : Int32)), .val (.int (((Jvm.Free.XT.ushr (Jvm.Free.XT.ushr i1 (1 : Int32)) (4 : Int32)) &&& (7 : Int32)) - (3 : Int32)))] [])
      refine own_go (fun t k => XS.aloadN X22.here hx rfl (hb hby at_106) rfl (own_of_ref a_VALUES a_BIND a_UNBIND a_SEARCH a_MODIFY a_ADD a_DELETE a_MODIFY_DN a_COMPARE a_ABANDON a_EXTENDED cl_VALUES ((99 : Int32) + (((Jvm.Free.XT.ushr (Jvm.Free.XT.ushr i1 (1 : Int32)) (4 : Int32)) &&& (7 : Int32)) - (3 : Int32)))) k) ?_
      show own_G p e below _ T22 (mkF m 107 #[.val (.int i0), .val (.int i1), .val (.int ((99 : Int32) + (((Jvm.Free.XT.ushr (Jvm.Free.XT.ushr i1 (1 : Int32)) (4 : Int32)) &&& (7 : Int32)) - (3 : Int32)))), .val (own_of a_VALUES a_BIND a_UNBIND a_SEARCH a_MODIFY a_ADD a_DELETE a_MODIFY_DN a_COMPARE a_ABANDON a_EXTENDED cl_VALUES ((99 : Int32) + (((Jvm.Free.XT.ushr (Jvm.Free.XT.ushr i1 (1 : Int32)) (4 : Int32)) &&& (7 : Int32)) - (3 : Int32)))), .val (.int (Jvm.Free.XT.ushr i1 (1 : Int32))), .val (.int (2 : Int32)), .val (.int (((Jvm.Free.XT.ushr (Jvm.Free.XT.ushr i1 (1 : Int32)) (4 : Int32)) &&& (7 : Int32)) - (3 : Int32)))] [(own_of a_VALUES a_BIND a_UNBIND a_SEARCH a_MODIFY a_ADD a_DELETE a_MODIFY_DN a_COMPARE a_ABANDON a_EXTENDED cl_VALUES ((99 : Int32) + (((Jvm.Free.XT.ushr (Jvm.Free.XT.ushr i1 (1 : Int32)) (4 : Int32)) &&& (7 : Int32)) - (3 : Int32))))])
      refine own_go (fun t k => XS.iloadN X22.here hx rfl (hb hby at_107) rfl k) ?_
      show own_G p e below _ T22 (mkF m 108 #[.val (.int i0), .val (.int i1), .val (.int ((99 : Int32) + (((Jvm.Free.XT.ushr (Jvm.Free.XT.ushr i1 (1 : Int32)) (4 : Int32)) &&& (7 : Int32)) - (3 : Int32)))), .val (own_of a_VALUES a_BIND a_UNBIND a_SEARCH a_MODIFY a_ADD a_DELETE a_MODIFY_DN a_COMPARE a_ABANDON a_EXTENDED cl_VALUES ((99 : Int32) + (((Jvm.Free.XT.ushr (Jvm.Free.XT.ushr i1 (1 : Int32)) (4 : Int32)) &&& (7 : Int32)) - (3 : Int32)))), .val (.int (Jvm.Free.XT.ushr i1 (1 : Int32))), .val (.int (2 : Int32)), .val (.int (((Jvm.Free.XT.ushr (Jvm.Free.XT.ushr i1 (1 : Int32)) (4 : Int32)) &&& (7 : Int32)) - (3 : Int32)))] [(.int ((99 : Int32) + (((Jvm.Free.XT.ushr (Jvm.Free.XT.ushr i1 (1 : Int32)) (4 : Int32)) &&& (7 : Int32)) - (3 : Int32)))), (own_of a_VALUES a_BIND a_UNBIND a_SEARCH a_MODIFY a_ADD a_DELETE a_MODIFY_DN a_COMPARE a_ABANDON a_EXTENDED cl_VALUES ((99 : Int32) + (((Jvm.Free.XT.ushr (Jvm.Free.XT.ushr i1 (1 : Int32)) (4 : Int32)) &&& (7 : Int32)) - (3 : Int32))))])
      obtain ⟨T24, L24, v24, X24, ⟨rfl, rfl, q24⟩, st24⟩ := own_callS X22 hx hZ (y := (⟨"com/example/canonry/canonry/OperationOfRequestTagPinLaw", "expected", "(I)Lcom/example/canonry/canonry/Operation;"⟩ : MethodName)) hown (hw _ (List.mem_of_getElem? (i := 32) rfl)) (hw _ (List.mem_of_getElem? (i := 33) rfl)) (hw _ (List.mem_of_getElem? (i := 34) rfl)) (hw _ (List.mem_of_getElem? (i := 35) rfl)) (by decide) (c_exp l Z a0 hw a_VALUES a_BIND a_UNBIND a_SEARCH a_MODIFY a_ADD a_DELETE a_MODIFY_DN a_COMPARE a_ABANDON a_EXTENDED cl_VALUES ((99 : Int32) + (((Jvm.Free.XT.ushr (Jvm.Free.XT.ushr i1 (1 : Int32)) (4 : Int32)) &&& (7 : Int32)) - (3 : Int32))) T22.heap (own_B_ext x22 B) ) rfl (argsL := [(.int ((99 : Int32) + (((Jvm.Free.XT.ushr (Jvm.Free.XT.ushr i1 (1 : Int32)) (4 : Int32)) &&& (7 : Int32)) - (3 : Int32))))]) (rest := [(own_of a_VALUES a_BIND a_UNBIND a_SEARCH a_MODIFY a_ADD a_DELETE a_MODIFY_DN a_COMPARE a_ABANDON a_EXTENDED cl_VALUES ((99 : Int32) + (((Jvm.Free.XT.ushr (Jvm.Free.XT.ushr i1 (1 : Int32)) (4 : Int32)) &&& (7 : Int32)) - (3 : Int32))))]) (g := (mkF m 108 #[.val (.int i0), .val (.int i1), .val (.int ((99 : Int32) + (((Jvm.Free.XT.ushr (Jvm.Free.XT.ushr i1 (1 : Int32)) (4 : Int32)) &&& (7 : Int32)) - (3 : Int32)))), .val (own_of a_VALUES a_BIND a_UNBIND a_SEARCH a_MODIFY a_ADD a_DELETE a_MODIFY_DN a_COMPARE a_ABANDON a_EXTENDED cl_VALUES ((99 : Int32) + (((Jvm.Free.XT.ushr (Jvm.Free.XT.ushr i1 (1 : Int32)) (4 : Int32)) &&& (7 : Int32)) - (3 : Int32)))), .val (.int (Jvm.Free.XT.ushr i1 (1 : Int32))), .val (.int (2 : Int32)), .val (.int (((Jvm.Free.XT.ushr (Jvm.Free.XT.ushr i1 (1 : Int32)) (4 : Int32)) &&& (7 : Int32)) - (3 : Int32)))] [(.int ((99 : Int32) + (((Jvm.Free.XT.ushr (Jvm.Free.XT.ushr i1 (1 : Int32)) (4 : Int32)) &&& (7 : Int32)) - (3 : Int32)))), (own_of a_VALUES a_BIND a_UNBIND a_SEARCH a_MODIFY a_ADD a_DELETE a_MODIFY_DN a_COMPARE a_ABANDON a_EXTENDED cl_VALUES ((99 : Int32) + (((Jvm.Free.XT.ushr (Jvm.Free.XT.ushr i1 (1 : Int32)) (4 : Int32)) &&& (7 : Int32)) - (3 : Int32))))])) rfl (by rw [hml]; rfl) (ps := [.int]) (r := (some (.object "com/example/canonry/canonry/Operation"))) (by decide +kernel) rfl rfl (W := 1) (by show 2 * 0 + _ ≤ _; simp [own_cat (own_of_ref a_VALUES a_BIND a_UNBIND a_SEARCH a_MODIFY a_ADD a_DELETE a_MODIFY_DN a_COMPARE a_ABANDON a_EXTENDED cl_VALUES ((99 : Int32) + (((Jvm.Free.XT.ushr (Jvm.Free.XT.ushr i1 (1 : Int32)) (4 : Int32)) &&& (7 : Int32)) - (3 : Int32))))]) (hb hby at_108) (by decide) (by decide) (by decide) (by decide)
      have N24 := Fr.app N22 (Fr.nil n0)
      refine own_go st24 ?_
      show own_G p e below _ T24 (mkF m 111 #[.val (.int i0), .val (.int i1), .val (.int ((99 : Int32) + (((Jvm.Free.XT.ushr (Jvm.Free.XT.ushr i1 (1 : Int32)) (4 : Int32)) &&& (7 : Int32)) - (3 : Int32)))), .val (own_of a_VALUES a_BIND a_UNBIND a_SEARCH a_MODIFY a_ADD a_DELETE a_MODIFY_DN a_COMPARE a_ABANDON a_EXTENDED cl_VALUES ((99 : Int32) + (((Jvm.Free.XT.ushr (Jvm.Free.XT.ushr i1 (1 : Int32)) (4 : Int32)) &&& (7 : Int32)) - (3 : Int32)))), .val (.int (Jvm.Free.XT.ushr i1 (1 : Int32))), .val (.int (2 : Int32)), .val (.int (((Jvm.Free.XT.ushr (Jvm.Free.XT.ushr i1 (1 : Int32)) (4 : Int32)) &&& (7 : Int32)) - (3 : Int32)))] [(own_exp a_VALUES a_BIND a_UNBIND a_SEARCH a_MODIFY a_ADD a_DELETE a_MODIFY_DN a_COMPARE a_ABANDON a_EXTENDED cl_VALUES ((99 : Int32) + (((Jvm.Free.XT.ushr (Jvm.Free.XT.ushr i1 (1 : Int32)) (4 : Int32)) &&& (7 : Int32)) - (3 : Int32)))), (own_of a_VALUES a_BIND a_UNBIND a_SEARCH a_MODIFY a_ADD a_DELETE a_MODIFY_DN a_COMPARE a_ABANDON a_EXTENDED cl_VALUES ((99 : Int32) + (((Jvm.Free.XT.ushr (Jvm.Free.XT.ushr i1 (1 : Int32)) (4 : Int32)) &&& (7 : Int32)) - (3 : Int32))))])
      refine own_go (fun t k => Jvm.Free.XT.acmpNo X24.here hx rfl (hb hby at_111) rfl (own_of_ref a_VALUES a_BIND a_UNBIND a_SEARCH a_MODIFY a_ADD a_DELETE a_MODIFY_DN a_COMPARE a_ABANDON a_EXTENDED cl_VALUES ((99 : Int32) + (((Jvm.Free.XT.ushr (Jvm.Free.XT.ushr i1 (1 : Int32)) (4 : Int32)) &&& (7 : Int32)) - (3 : Int32)))) (own_exp_ref a_VALUES a_BIND a_UNBIND a_SEARCH a_MODIFY a_ADD a_DELETE a_MODIFY_DN a_COMPARE a_ABANDON a_EXTENDED cl_VALUES ((99 : Int32) + (((Jvm.Free.XT.ushr (Jvm.Free.XT.ushr i1 (1 : Int32)) (4 : Int32)) &&& (7 : Int32)) - (3 : Int32)))) (own_acVF (own_same a_VALUES a_BIND a_UNBIND a_SEARCH a_MODIFY a_ADD a_DELETE a_MODIFY_DN a_COMPARE a_ABANDON a_EXTENDED cl_VALUES ((99 : Int32) + (((Jvm.Free.XT.ushr (Jvm.Free.XT.ushr i1 (1 : Int32)) (4 : Int32)) &&& (7 : Int32)) - (3 : Int32))))) k) ?_
      show own_G p e below _ T24 (mkF m 114 #[.val (.int i0), .val (.int i1), .val (.int ((99 : Int32) + (((Jvm.Free.XT.ushr (Jvm.Free.XT.ushr i1 (1 : Int32)) (4 : Int32)) &&& (7 : Int32)) - (3 : Int32)))), .val (own_of a_VALUES a_BIND a_UNBIND a_SEARCH a_MODIFY a_ADD a_DELETE a_MODIFY_DN a_COMPARE a_ABANDON a_EXTENDED cl_VALUES ((99 : Int32) + (((Jvm.Free.XT.ushr (Jvm.Free.XT.ushr i1 (1 : Int32)) (4 : Int32)) &&& (7 : Int32)) - (3 : Int32)))), .val (.int (Jvm.Free.XT.ushr i1 (1 : Int32))), .val (.int (2 : Int32)), .val (.int (((Jvm.Free.XT.ushr (Jvm.Free.XT.ushr i1 (1 : Int32)) (4 : Int32)) &&& (7 : Int32)) - (3 : Int32)))] [])
      refine own_go (fun t k => XS.iconst X24.here hx rfl (hb hby at_114) k) ?_
      show own_G p e below _ T24 (mkF m 115 #[.val (.int i0), .val (.int i1), .val (.int ((99 : Int32) + (((Jvm.Free.XT.ushr (Jvm.Free.XT.ushr i1 (1 : Int32)) (4 : Int32)) &&& (7 : Int32)) - (3 : Int32)))), .val (own_of a_VALUES a_BIND a_UNBIND a_SEARCH a_MODIFY a_ADD a_DELETE a_MODIFY_DN a_COMPARE a_ABANDON a_EXTENDED cl_VALUES ((99 : Int32) + (((Jvm.Free.XT.ushr (Jvm.Free.XT.ushr i1 (1 : Int32)) (4 : Int32)) &&& (7 : Int32)) - (3 : Int32)))), .val (.int (Jvm.Free.XT.ushr i1 (1 : Int32))), .val (.int (2 : Int32)), .val (.int (((Jvm.Free.XT.ushr (Jvm.Free.XT.ushr i1 (1 : Int32)) (4 : Int32)) &&& (7 : Int32)) - (3 : Int32)))] [(.int (1 : Int32))])
      refine own_go (fun t k => XS.goto X24.here hx rfl (pc0 := 115) (pc' := 119) rfl (hb hby at_115) (by decide) (by decide) k) ?_
      show own_G p e below _ T24 (mkF m 119 #[.val (.int i0), .val (.int i1), .val (.int ((99 : Int32) + (((Jvm.Free.XT.ushr (Jvm.Free.XT.ushr i1 (1 : Int32)) (4 : Int32)) &&& (7 : Int32)) - (3 : Int32)))), .val (own_of a_VALUES a_BIND a_UNBIND a_SEARCH a_MODIFY a_ADD a_DELETE a_MODIFY_DN a_COMPARE a_ABANDON a_EXTENDED cl_VALUES ((99 : Int32) + (((Jvm.Free.XT.ushr (Jvm.Free.XT.ushr i1 (1 : Int32)) (4 : Int32)) &&& (7 : Int32)) - (3 : Int32)))), .val (.int (Jvm.Free.XT.ushr i1 (1 : Int32))), .val (.int (2 : Int32)), .val (.int (((Jvm.Free.XT.ushr (Jvm.Free.XT.ushr i1 (1 : Int32)) (4 : Int32)) &&& (7 : Int32)) - (3 : Int32)))] [(.int (1 : Int32))])
      exact own_retN X24 hx hlk hret (by simp) (hb hby at_119) (by decide) (by decide) ⟨rfl, N24⟩
    · rw [hk15]
      show own_G p e below _ T14 (mkF m 88 #[.val (.int i0), .val (.int i1), .unset, .val (.ref a4), .val (.int (Jvm.Free.XT.ushr i1 (1 : Int32))), .val (.int (3 : Int32)), .val (.int (((Jvm.Free.XT.ushr (Jvm.Free.XT.ushr i1 (1 : Int32)) (4 : Int32)) &&& (7 : Int32)) - (3 : Int32)))] [])
      refine own_go (fun t k => XS.aloadN X14.here hx rfl (hb hby at_88) rfl rfl k) ?_
      show own_G p e below _ T14 (mkF m 89 #[.val (.int i0), .val (.int i1), .unset, .val (.ref a4), .val (.int (Jvm.Free.XT.ushr i1 (1 : Int32))), .val (.int (3 : Int32)), .val (.int (((Jvm.Free.XT.ushr (Jvm.Free.XT.ushr i1 (1 : Int32)) (4 : Int32)) &&& (7 : Int32)) - (3 : Int32)))] [(.ref a4)])
      refine own_go (fun t k => XS.iload X14.here hx rfl (hb hby at_89) rfl k) ?_
      show own_G p e below _ T14 (mkF m 91 #[.val (.int i0), .val (.int i1), .unset, .val (.ref a4), .val (.int (Jvm.Free.XT.ushr i1 (1 : Int32))), .val (.int (3 : Int32)), .val (.int (((Jvm.Free.XT.ushr (Jvm.Free.XT.ushr i1 (1 : Int32)) (4 : Int32)) &&& (7 : Int32)) - (3 : Int32)))] [(.int (3 : Int32)), (.ref a4)])
      refine own_go (X14.iaload hx (j := (3 : Int32)) (v := (.int (102 : Int32))) (own_cellAt e14 A14) (State.isArrayOf_alike hZ.alike A14.2.1) A14.2.2 (own_in (n := 10) rfl (by decide)) rfl (g := (mkF m 91 #[.val (.int i0), .val (.int i1), .unset, .val (.ref a4), .val (.int (Jvm.Free.XT.ushr i1 (1 : Int32))), .val (.int (3 : Int32)), .val (.int (((Jvm.Free.XT.ushr (Jvm.Free.XT.ushr i1 (1 : Int32)) (4 : Int32)) &&& (7 : Int32)) - (3 : Int32)))] [(.int (3 : Int32)), (.ref a4)])) rfl rfl (hb hby at_91)) ?_
      show own_G p e below _ T14 (mkF m 92 #[.val (.int i0), .val (.int i1), .unset, .val (.ref a4), .val (.int (Jvm.Free.XT.ushr i1 (1 : Int32))), .val (.int (3 : Int32)), .val (.int (((Jvm.Free.XT.ushr (Jvm.Free.XT.ushr i1 (1 : Int32)) (4 : Int32)) &&& (7 : Int32)) - (3 : Int32)))] [(.int (102 : Int32))])
      refine own_go (fun t k => XS.iload X14.here hx rfl (hb hby at_92) rfl k) ?_
      show own_G p e below _ T14 (mkF m 94 #[.val (.int i0), .val (.int i1), .unset, .val (.ref a4), .val (.int (Jvm.Free.XT.ushr i1 (1 : Int32))), .val (.int (3 : Int32)), .val (.int (((Jvm.Free.XT.ushr (Jvm.Free.XT.ushr i1 (1 : Int32)) (4 : Int32)) &&& (7 : Int32)) - (3 : Int32)))] [(.int (((Jvm.Free.XT.ushr (Jvm.Free.XT.ushr i1 (1 : Int32)) (4 : Int32)) &&& (7 : Int32)) - (3 : Int32))), (.int (102 : Int32))])
      refine own_go (fun t k => XS.iadd X14.here hx rfl (hb hby at_94) rfl k) ?_
      show own_G p e below _ T14 (mkF m 95 #[.val (.int i0), .val (.int i1), .unset, .val (.ref a4), .val (.int (Jvm.Free.XT.ushr i1 (1 : Int32))), .val (.int (3 : Int32)), .val (.int (((Jvm.Free.XT.ushr (Jvm.Free.XT.ushr i1 (1 : Int32)) (4 : Int32)) &&& (7 : Int32)) - (3 : Int32)))] [(.int ((102 : Int32) + (((Jvm.Free.XT.ushr (Jvm.Free.XT.ushr i1 (1 : Int32)) (4 : Int32)) &&& (7 : Int32)) - (3 : Int32))))])
      refine own_go (fun t k => XS.istoreN X14.here hx rfl (hb hby at_95) rfl (l' := #[.val (.int i0), .val (.int i1), .val (.int ((102 : Int32) + (((Jvm.Free.XT.ushr (Jvm.Free.XT.ushr i1 (1 : Int32)) (4 : Int32)) &&& (7 : Int32)) - (3 : Int32)))), .val (.ref a4), .val (.int (Jvm.Free.XT.ushr i1 (1 : Int32))), .val (.int (3 : Int32)), .val (.int (((Jvm.Free.XT.ushr (Jvm.Free.XT.ushr i1 (1 : Int32)) (4 : Int32)) &&& (7 : Int32)) - (3 : Int32)))]) rfl k) ?_
      show own_G p e below _ T14 (mkF m 96 #[.val (.int i0), .val (.int i1), .val (.int ((102 : Int32) + (((Jvm.Free.XT.ushr (Jvm.Free.XT.ushr i1 (1 : Int32)) (4 : Int32)) &&& (7 : Int32)) - (3 : Int32)))), .val (.ref a4), .val (.int (Jvm.Free.XT.ushr i1 (1 : Int32))), .val (.int (3 : Int32)), .val (.int (((Jvm.Free.XT.ushr (Jvm.Free.XT.ushr i1 (1 : Int32)) (4 : Int32)) &&& (7 : Int32)) - (3 : Int32)))] [])
      refine own_go (fun t k => XS.goto X14.here hx rfl (pc0 := 96) (pc' := 101) rfl (hb hby at_96) (by decide) (by decide) k) ?_
      show own_G p e below _ T14 (mkF m 101 #[.val (.int i0), .val (.int i1), .val (.int ((102 : Int32) + (((Jvm.Free.XT.ushr (Jvm.Free.XT.ushr i1 (1 : Int32)) (4 : Int32)) &&& (7 : Int32)) - (3 : Int32)))), .val (.ref a4), .val (.int (Jvm.Free.XT.ushr i1 (1 : Int32))), .val (.int (3 : Int32)), .val (.int (((Jvm.Free.XT.ushr (Jvm.Free.XT.ushr i1 (1 : Int32)) (4 : Int32)) &&& (7 : Int32)) - (3 : Int32)))] [])
      refine own_go (fun t k => XS.iloadN X14.here hx rfl (hb hby at_101) rfl k) ?_
      show own_G p e below _ T14 (mkF m 102 #[.val (.int i0), .val (.int i1), .val (.int ((102 : Int32) + (((Jvm.Free.XT.ushr (Jvm.Free.XT.ushr i1 (1 : Int32)) (4 : Int32)) &&& (7 : Int32)) - (3 : Int32)))), .val (.ref a4), .val (.int (Jvm.Free.XT.ushr i1 (1 : Int32))), .val (.int (3 : Int32)), .val (.int (((Jvm.Free.XT.ushr (Jvm.Free.XT.ushr i1 (1 : Int32)) (4 : Int32)) &&& (7 : Int32)) - (3 : Int32)))] [(.int ((102 : Int32) + (((Jvm.Free.XT.ushr (Jvm.Free.XT.ushr i1 (1 : Int32)) (4 : Int32)) &&& (7 : Int32)) - (3 : Int32))))])
      obtain ⟨T25, L25, v25, X25, ⟨rfl, rfl, q25⟩, st25⟩ := own_callS X14 hx hZ (y := (⟨"com/example/canonry/canonry/Operation", "ofRequestTag", "(I)Lcom/example/canonry/canonry/Operation;"⟩ : MethodName)) hown (hw _ (List.mem_of_getElem? (i := 1) rfl)) (hw _ (List.mem_of_getElem? (i := 2) rfl)) (hw _ (List.mem_of_getElem? (i := 3) rfl)) (hw _ (List.mem_of_getElem? (i := 4) rfl)) (by decide) (c_of l Z a0 hw a_VALUES a_BIND a_UNBIND a_SEARCH a_MODIFY a_ADD a_DELETE a_MODIFY_DN a_COMPARE a_ABANDON a_EXTENDED cl_VALUES ((102 : Int32) + (((Jvm.Free.XT.ushr (Jvm.Free.XT.ushr i1 (1 : Int32)) (4 : Int32)) &&& (7 : Int32)) - (3 : Int32))) h14 (own_B_ext x14 B) ) e14 (argsL := [(.int ((102 : Int32) + (((Jvm.Free.XT.ushr (Jvm.Free.XT.ushr i1 (1 : Int32)) (4 : Int32)) &&& (7 : Int32)) - (3 : Int32))))]) (rest := []) (g := (mkF m 102 #[.val (.int i0), .val (.int i1), .val (.int ((102 : Int32) + (((Jvm.Free.XT.ushr (Jvm.Free.XT.ushr i1 (1 : Int32)) (4 : Int32)) &&& (7 : Int32)) - (3 : Int32)))), .val (.ref a4), .val (.int (Jvm.Free.XT.ushr i1 (1 : Int32))), .val (.int (3 : Int32)), .val (.int (((Jvm.Free.XT.ushr (Jvm.Free.XT.ushr i1 (1 : Int32)) (4 : Int32)) &&& (7 : Int32)) - (3 : Int32)))] [(.int ((102 : Int32) + (((Jvm.Free.XT.ushr (Jvm.Free.XT.ushr i1 (1 : Int32)) (4 : Int32)) &&& (7 : Int32)) - (3 : Int32))))])) rfl (by rw [hml]; rfl) (ps := [.int]) (r := (some (.object "com/example/canonry/canonry/Operation"))) (by decide +kernel) rfl rfl (W := 0) (by show 2 * 0 + _ ≤ _; exact Nat.le_of_eq rfl) (hb hby at_102) (by decide) (by decide) (by decide) (by decide)
      have x25 := own_ext_trans x14 q25
      have A26 := A14.ext q25
      have N25 := Fr.app N14 (Fr.nil n0)
      refine own_go st25 ?_
      show own_G p e below _ T25 (mkF m 105 #[.val (.int i0), .val (.int i1), .val (.int ((102 : Int32) + (((Jvm.Free.XT.ushr (Jvm.Free.XT.ushr i1 (1 : Int32)) (4 : Int32)) &&& (7 : Int32)) - (3 : Int32)))), .val (.ref a4), .val (.int (Jvm.Free.XT.ushr i1 (1 : Int32))), .val (.int (3 : Int32)), .val (.int (((Jvm.Free.XT.ushr (Jvm.Free.XT.ushr i1 (1 : Int32)) (4 : Int32)) &&& (7 : Int32)) - (3 : Int32)))] [(own_of a_VALUES a_BIND a_UNBIND a_SEARCH a_MODIFY a_ADD a_DELETE a_MODIFY_DN a_COMPARE a_ABANDON a_EXTENDED cl_VALUES ((102 : Int32) + (((Jvm.Free.XT.ushr (Jvm.Free.XT.ushr i1 (1 : Int32)) (4 : Int32)) &&& (7 : Int32)) - (3 : Int32))))])
      refine own_go (fun t k => XS.astoreN X25.here hx rfl (hb hby at_105) rfl (own_of_ref a_VALUES a_BIND a_UNBIND a_SEARCH a_MODIFY a_ADD a_DELETE a_MODIFY_DN a_COMPARE a_ABANDON a_EXTENDED cl_VALUES ((102 : Int32) + (((Jvm.Free.XT.ushr (Jvm.Free.XT.ushr i1 (1 : Int32)) (4 : Int32)) &&& (7 : Int32)) - (3 : Int32)))) (l' := #[.val (.int i0), .val (.int i1), .val (.int ((102 : Int32) + (((Jvm.Free.XT.ushr (Jvm.Free.XT.ushr i1 (1 : Int32)) (4 : Int32)) &&& (7 : Int32)) - (3 : Int32)))), .val (own_of a_VALUES a_BIND a_UNBIND a_SEARCH a_MODIFY a_ADD a_DELETE a_MODIFY_DN a_COMPARE a_ABANDON a_EXTENDED cl_VALUES ((102 : Int32) + (((Jvm.Free.XT.ushr (Jvm.Free.XT.ushr i1 (1 : Int32)) (4 : Int32)) &&& (7 : Int32)) - (3 : Int32)))), .val (.int (Jvm.Free.XT.ushr i1 (1 : Int32))), .val (.int (3 : Int32)), .val (.int (((Jvm.Free.XT.ushr (Jvm.Free.XT.ushr i1 (1 : Int32)) (4 : Int32)) &&& (7 : Int32)) - (3 : Int32)))]) (XS.store1 (o := .val (.ref a4)) rfl (Or.inr ⟨_, rfl, rfl⟩) (own_cat (own_of_ref a_VALUES a_BIND a_UNBIND a_SEARCH a_MODIFY a_ADD a_DELETE a_MODIFY_DN a_COMPARE a_ABANDON a_EXTENDED cl_VALUES ((102 : Int32) + (((Jvm.Free.XT.ushr (Jvm.Free.XT.ushr i1 (1 : Int32)) (4 : Int32)) &&& (7 : Int32)) - (3 : Int32)))))) k) ?_
      show own_G p e below _ T25 (mkF m 106 #[.val (.int i0), .val (.int i1), .val (.int ((102 : Int32) + (((Jvm.Free.XT.ushr (Jvm.Free.XT.ushr i1 (1 : Int32)) (4 : Int32)) &&& (7 : Int32)) - (3 : Int32)))), .val (own_of a_VALUES a_BIND a_UNBIND a_SEARCH a_MODIFY a_ADD a_DELETE a_MODIFY_DN a_COMPARE a_ABANDON a_EXTENDED cl_VALUES ((102 : Int32) + (((Jvm.Free.XT.ushr (Jvm.Free.XT.ushr i1 (1 : Int32)) (4 : Int32)) &&& (7 : Int32)) - (3 : Int32)))), .val (.int (Jvm.Free.XT.ushr i1 (1 : Int32))), .val (.int (3 : Int32)), .val (.int (((Jvm.Free.XT.ushr (Jvm.Free.XT.ushr i1 (1 : Int32)) (4 : Int32)) &&& (7 : Int32)) - (3 : Int32)))] [])
      refine own_go (fun t k => XS.aloadN X25.here hx rfl (hb hby at_106) rfl (own_of_ref a_VALUES a_BIND a_UNBIND a_SEARCH a_MODIFY a_ADD a_DELETE a_MODIFY_DN a_COMPARE a_ABANDON a_EXTENDED cl_VALUES ((102 : Int32) + (((Jvm.Free.XT.ushr (Jvm.Free.XT.ushr i1 (1 : Int32)) (4 : Int32)) &&& (7 : Int32)) - (3 : Int32)))) k) ?_
      show own_G p e below _ T25 (mkF m 107 #[.val (.int i0), .val (.int i1), .val (.int ((102 : Int32) + (((Jvm.Free.XT.ushr (Jvm.Free.XT.ushr i1 (1 : Int32)) (4 : Int32)) &&& (7 : Int32)) - (3 : Int32)))), .val (own_of a_VALUES a_BIND a_UNBIND a_SEARCH a_MODIFY a_ADD a_DELETE a_MODIFY_DN a_COMPARE a_ABANDON a_EXTENDED cl_VALUES ((102 : Int32) + (((Jvm.Free.XT.ushr (Jvm.Free.XT.ushr i1 (1 : Int32)) (4 : Int32)) &&& (7 : Int32)) - (3 : Int32)))), .val (.int (Jvm.Free.XT.ushr i1 (1 : Int32))), .val (.int (3 : Int32)), .val (.int (((Jvm.Free.XT.ushr (Jvm.Free.XT.ushr i1 (1 : Int32)) (4 : Int32)) &&& (7 : Int32)) - (3 : Int32)))] [(own_of a_VALUES a_BIND a_UNBIND a_SEARCH a_MODIFY a_ADD a_DELETE a_MODIFY_DN a_COMPARE a_ABANDON a_EXTENDED cl_VALUES ((102 : Int32) + (((Jvm.Free.XT.ushr (Jvm.Free.XT.ushr i1 (1 : Int32)) (4 : Int32)) &&& (7 : Int32)) - (3 : Int32))))])
      refine own_go (fun t k => XS.iloadN X25.here hx rfl (hb hby at_107) rfl k) ?_
      show own_G p e below _ T25 (mkF m 108 #[.val (.int i0), .val (.int i1), .val (.int ((102 : Int32) + (((Jvm.Free.XT.ushr (Jvm.Free.XT.ushr i1 (1 : Int32)) (4 : Int32)) &&& (7 : Int32)) - (3 : Int32)))), .val (own_of a_VALUES a_BIND a_UNBIND a_SEARCH a_MODIFY a_ADD a_DELETE a_MODIFY_DN a_COMPARE a_ABANDON a_EXTENDED cl_VALUES ((102 : Int32) + (((Jvm.Free.XT.ushr (Jvm.Free.XT.ushr i1 (1 : Int32)) (4 : Int32)) &&& (7 : Int32)) - (3 : Int32)))), .val (.int (Jvm.Free.XT.ushr i1 (1 : Int32))), .val (.int (3 : Int32)), .val (.int (((Jvm.Free.XT.ushr (Jvm.Free.XT.ushr i1 (1 : Int32)) (4 : Int32)) &&& (7 : Int32)) - (3 : Int32)))] [(.int ((102 : Int32) + (((Jvm.Free.XT.ushr (Jvm.Free.XT.ushr i1 (1 : Int32)) (4 : Int32)) &&& (7 : Int32)) - (3 : Int32)))), (own_of a_VALUES a_BIND a_UNBIND a_SEARCH a_MODIFY a_ADD a_DELETE a_MODIFY_DN a_COMPARE a_ABANDON a_EXTENDED cl_VALUES ((102 : Int32) + (((Jvm.Free.XT.ushr (Jvm.Free.XT.ushr i1 (1 : Int32)) (4 : Int32)) &&& (7 : Int32)) - (3 : Int32))))])
      obtain ⟨T27, L27, v27, X27, ⟨rfl, rfl, q27⟩, st27⟩ := own_callS X25 hx hZ (y := (⟨"com/example/canonry/canonry/OperationOfRequestTagPinLaw", "expected", "(I)Lcom/example/canonry/canonry/Operation;"⟩ : MethodName)) hown (hw _ (List.mem_of_getElem? (i := 32) rfl)) (hw _ (List.mem_of_getElem? (i := 33) rfl)) (hw _ (List.mem_of_getElem? (i := 34) rfl)) (hw _ (List.mem_of_getElem? (i := 35) rfl)) (by decide) (c_exp l Z a0 hw a_VALUES a_BIND a_UNBIND a_SEARCH a_MODIFY a_ADD a_DELETE a_MODIFY_DN a_COMPARE a_ABANDON a_EXTENDED cl_VALUES ((102 : Int32) + (((Jvm.Free.XT.ushr (Jvm.Free.XT.ushr i1 (1 : Int32)) (4 : Int32)) &&& (7 : Int32)) - (3 : Int32))) T25.heap (own_B_ext x25 B) ) rfl (argsL := [(.int ((102 : Int32) + (((Jvm.Free.XT.ushr (Jvm.Free.XT.ushr i1 (1 : Int32)) (4 : Int32)) &&& (7 : Int32)) - (3 : Int32))))]) (rest := [(own_of a_VALUES a_BIND a_UNBIND a_SEARCH a_MODIFY a_ADD a_DELETE a_MODIFY_DN a_COMPARE a_ABANDON a_EXTENDED cl_VALUES ((102 : Int32) + (((Jvm.Free.XT.ushr (Jvm.Free.XT.ushr i1 (1 : Int32)) (4 : Int32)) &&& (7 : Int32)) - (3 : Int32))))]) (g := (mkF m 108 #[.val (.int i0), .val (.int i1), .val (.int ((102 : Int32) + (((Jvm.Free.XT.ushr (Jvm.Free.XT.ushr i1 (1 : Int32)) (4 : Int32)) &&& (7 : Int32)) - (3 : Int32)))), .val (own_of a_VALUES a_BIND a_UNBIND a_SEARCH a_MODIFY a_ADD a_DELETE a_MODIFY_DN a_COMPARE a_ABANDON a_EXTENDED cl_VALUES ((102 : Int32) + (((Jvm.Free.XT.ushr (Jvm.Free.XT.ushr i1 (1 : Int32)) (4 : Int32)) &&& (7 : Int32)) - (3 : Int32)))), .val (.int (Jvm.Free.XT.ushr i1 (1 : Int32))), .val (.int (3 : Int32)), .val (.int (((Jvm.Free.XT.ushr (Jvm.Free.XT.ushr i1 (1 : Int32)) (4 : Int32)) &&& (7 : Int32)) - (3 : Int32)))] [(.int ((102 : Int32) + (((Jvm.Free.XT.ushr (Jvm.Free.XT.ushr i1 (1 : Int32)) (4 : Int32)) &&& (7 : Int32)) - (3 : Int32)))), (own_of a_VALUES a_BIND a_UNBIND a_SEARCH a_MODIFY a_ADD a_DELETE a_MODIFY_DN a_COMPARE a_ABANDON a_EXTENDED cl_VALUES ((102 : Int32) + (((Jvm.Free.XT.ushr (Jvm.Free.XT.ushr i1 (1 : Int32)) (4 : Int32)) &&& (7 : Int32)) - (3 : Int32))))])) rfl (by rw [hml]; rfl) (ps := [.int]) (r := (some (.object "com/example/canonry/canonry/Operation"))) (by decide +kernel) rfl rfl (W := 1) (by show 2 * 0 + _ ≤ _; simp [own_cat (own_of_ref a_VALUES a_BIND a_UNBIND a_SEARCH a_MODIFY a_ADD a_DELETE a_MODIFY_DN a_COMPARE a_ABANDON a_EXTENDED cl_VALUES ((102 : Int32) + (((Jvm.Free.XT.ushr (Jvm.Free.XT.ushr i1 (1 : Int32)) (4 : Int32)) &&& (7 : Int32)) - (3 : Int32))))]) (hb hby at_108) (by decide) (by decide) (by decide) (by decide)
      have N27 := Fr.app N25 (Fr.nil n0)
      refine own_go st27 ?_
      show own_G p e below _ T27 (mkF m 111 #[.val (.int i0), .val (.int i1), .val (.int ((102 : Int32) + (((Jvm.Free.XT.ushr (Jvm.Free.XT.ushr i1 (1 : Int32)) (4 : Int32)) &&& (7 : Int32)) - (3 : Int32)))), .val (own_of a_VALUES a_BIND a_UNBIND a_SEARCH a_MODIFY a_ADD a_DELETE a_MODIFY_DN a_COMPARE a_ABANDON a_EXTENDED cl_VALUES ((102 : Int32) + (((Jvm.Free.XT.ushr (Jvm.Free.XT.ushr i1 (1 : Int32)) (4 : Int32)) &&& (7 : Int32)) - (3 : Int32)))), .val (.int (Jvm.Free.XT.ushr i1 (1 : Int32))), .val (.int (3 : Int32)), .val (.int (((Jvm.Free.XT.ushr (Jvm.Free.XT.ushr i1 (1 : Int32)) (4 : Int32)) &&& (7 : Int32)) - (3 : Int32)))] [(own_exp a_VALUES a_BIND a_UNBIND a_SEARCH a_MODIFY a_ADD a_DELETE a_MODIFY_DN a_COMPARE a_ABANDON a_EXTENDED cl_VALUES ((102 : Int32) + (((Jvm.Free.XT.ushr (Jvm.Free.XT.ushr i1 (1 : Int32)) (4 : Int32)) &&& (7 : Int32)) - (3 : Int32)))), (own_of a_VALUES a_BIND a_UNBIND a_SEARCH a_MODIFY a_ADD a_DELETE a_MODIFY_DN a_COMPARE a_ABANDON a_EXTENDED cl_VALUES ((102 : Int32) + (((Jvm.Free.XT.ushr (Jvm.Free.XT.ushr i1 (1 : Int32)) (4 : Int32)) &&& (7 : Int32)) - (3 : Int32))))])
      refine own_go (fun t k => Jvm.Free.XT.acmpNo X27.here hx rfl (hb hby at_111) rfl (own_of_ref a_VALUES a_BIND a_UNBIND a_SEARCH a_MODIFY a_ADD a_DELETE a_MODIFY_DN a_COMPARE a_ABANDON a_EXTENDED cl_VALUES ((102 : Int32) + (((Jvm.Free.XT.ushr (Jvm.Free.XT.ushr i1 (1 : Int32)) (4 : Int32)) &&& (7 : Int32)) - (3 : Int32)))) (own_exp_ref a_VALUES a_BIND a_UNBIND a_SEARCH a_MODIFY a_ADD a_DELETE a_MODIFY_DN a_COMPARE a_ABANDON a_EXTENDED cl_VALUES ((102 : Int32) + (((Jvm.Free.XT.ushr (Jvm.Free.XT.ushr i1 (1 : Int32)) (4 : Int32)) &&& (7 : Int32)) - (3 : Int32)))) (own_acVF (own_same a_VALUES a_BIND a_UNBIND a_SEARCH a_MODIFY a_ADD a_DELETE a_MODIFY_DN a_COMPARE a_ABANDON a_EXTENDED cl_VALUES ((102 : Int32) + (((Jvm.Free.XT.ushr (Jvm.Free.XT.ushr i1 (1 : Int32)) (4 : Int32)) &&& (7 : Int32)) - (3 : Int32))))) k) ?_
      show own_G p e below _ T27 (mkF m 114 #[.val (.int i0), .val (.int i1), .val (.int ((102 : Int32) + (((Jvm.Free.XT.ushr (Jvm.Free.XT.ushr i1 (1 : Int32)) (4 : Int32)) &&& (7 : Int32)) - (3 : Int32)))), .val (own_of a_VALUES a_BIND a_UNBIND a_SEARCH a_MODIFY a_ADD a_DELETE a_MODIFY_DN a_COMPARE a_ABANDON a_EXTENDED cl_VALUES ((102 : Int32) + (((Jvm.Free.XT.ushr (Jvm.Free.XT.ushr i1 (1 : Int32)) (4 : Int32)) &&& (7 : Int32)) - (3 : Int32)))), .val (.int (Jvm.Free.XT.ushr i1 (1 : Int32))), .val (.int (3 : Int32)), .val (.int (((Jvm.Free.XT.ushr (Jvm.Free.XT.ushr i1 (1 : Int32)) (4 : Int32)) &&& (7 : Int32)) - (3 : Int32)))] [])
      refine own_go (fun t k => XS.iconst X27.here hx rfl (hb hby at_114) k) ?_
      show own_G p e below _ T27 (mkF m 115 #[.val (.int i0), .val (.int i1), .val (.int ((102 : Int32) + (((Jvm.Free.XT.ushr (Jvm.Free.XT.ushr i1 (1 : Int32)) (4 : Int32)) &&& (7 : Int32)) - (3 : Int32)))), .val (own_of a_VALUES a_BIND a_UNBIND a_SEARCH a_MODIFY a_ADD a_DELETE a_MODIFY_DN a_COMPARE a_ABANDON a_EXTENDED cl_VALUES ((102 : Int32) + (((Jvm.Free.XT.ushr (Jvm.Free.XT.ushr i1 (1 : Int32)) (4 : Int32)) &&& (7 : Int32)) - (3 : Int32)))), .val (.int (Jvm.Free.XT.ushr i1 (1 : Int32))), .val (.int (3 : Int32)), .val (.int (((Jvm.Free.XT.ushr (Jvm.Free.XT.ushr i1 (1 : Int32)) (4 : Int32)) &&& (7 : Int32)) - (3 : Int32)))] [(.int (1 : Int32))])
      refine own_go (fun t k => XS.goto X27.here hx rfl (pc0 := 115) (pc' := 119) rfl (hb hby at_115) (by decide) (by decide) k) ?_
      show own_G p e below _ T27 (mkF m 119 #[.val (.int i0), .val (.int i1), .val (.int ((102 : Int32) + (((Jvm.Free.XT.ushr (Jvm.Free.XT.ushr i1 (1 : Int32)) (4 : Int32)) &&& (7 : Int32)) - (3 : Int32)))), .val (own_of a_VALUES a_BIND a_UNBIND a_SEARCH a_MODIFY a_ADD a_DELETE a_MODIFY_DN a_COMPARE a_ABANDON a_EXTENDED cl_VALUES ((102 : Int32) + (((Jvm.Free.XT.ushr (Jvm.Free.XT.ushr i1 (1 : Int32)) (4 : Int32)) &&& (7 : Int32)) - (3 : Int32)))), .val (.int (Jvm.Free.XT.ushr i1 (1 : Int32))), .val (.int (3 : Int32)), .val (.int (((Jvm.Free.XT.ushr (Jvm.Free.XT.ushr i1 (1 : Int32)) (4 : Int32)) &&& (7 : Int32)) - (3 : Int32)))] [(.int (1 : Int32))])
      exact own_retN X27 hx hlk hret (by simp) (hb hby at_119) (by decide) (by decide) ⟨rfl, N27⟩
    · rw [hk15]
      show own_G p e below _ T14 (mkF m 88 #[.val (.int i0), .val (.int i1), .unset, .val (.ref a4), .val (.int (Jvm.Free.XT.ushr i1 (1 : Int32))), .val (.int (4 : Int32)), .val (.int (((Jvm.Free.XT.ushr (Jvm.Free.XT.ushr i1 (1 : Int32)) (4 : Int32)) &&& (7 : Int32)) - (3 : Int32)))] [])
      refine own_go (fun t k => XS.aloadN X14.here hx rfl (hb hby at_88) rfl rfl k) ?_
      show own_G p e below _ T14 (mkF m 89 #[.val (.int i0), .val (.int i1), .unset, .val (.ref a4), .val (.int (Jvm.Free.XT.ushr i1 (1 : Int32))), .val (.int (4 : Int32)), .val (.int (((Jvm.Free.XT.ushr (Jvm.Free.XT.ushr i1 (1 : Int32)) (4 : Int32)) &&& (7 : Int32)) - (3 : Int32)))] [(.ref a4)])
      refine own_go (fun t k => XS.iload X14.here hx rfl (hb hby at_89) rfl k) ?_
      show own_G p e below _ T14 (mkF m 91 #[.val (.int i0), .val (.int i1), .unset, .val (.ref a4), .val (.int (Jvm.Free.XT.ushr i1 (1 : Int32))), .val (.int (4 : Int32)), .val (.int (((Jvm.Free.XT.ushr (Jvm.Free.XT.ushr i1 (1 : Int32)) (4 : Int32)) &&& (7 : Int32)) - (3 : Int32)))] [(.int (4 : Int32)), (.ref a4)])
      refine own_go (X14.iaload hx (j := (4 : Int32)) (v := (.int (104 : Int32))) (own_cellAt e14 A14) (State.isArrayOf_alike hZ.alike A14.2.1) A14.2.2 (own_in (n := 10) rfl (by decide)) rfl (g := (mkF m 91 #[.val (.int i0), .val (.int i1), .unset, .val (.ref a4), .val (.int (Jvm.Free.XT.ushr i1 (1 : Int32))), .val (.int (4 : Int32)), .val (.int (((Jvm.Free.XT.ushr (Jvm.Free.XT.ushr i1 (1 : Int32)) (4 : Int32)) &&& (7 : Int32)) - (3 : Int32)))] [(.int (4 : Int32)), (.ref a4)])) rfl rfl (hb hby at_91)) ?_
      show own_G p e below _ T14 (mkF m 92 #[.val (.int i0), .val (.int i1), .unset, .val (.ref a4), .val (.int (Jvm.Free.XT.ushr i1 (1 : Int32))), .val (.int (4 : Int32)), .val (.int (((Jvm.Free.XT.ushr (Jvm.Free.XT.ushr i1 (1 : Int32)) (4 : Int32)) &&& (7 : Int32)) - (3 : Int32)))] [(.int (104 : Int32))])
      refine own_go (fun t k => XS.iload X14.here hx rfl (hb hby at_92) rfl k) ?_
      show own_G p e below _ T14 (mkF m 94 #[.val (.int i0), .val (.int i1), .unset, .val (.ref a4), .val (.int (Jvm.Free.XT.ushr i1 (1 : Int32))), .val (.int (4 : Int32)), .val (.int (((Jvm.Free.XT.ushr (Jvm.Free.XT.ushr i1 (1 : Int32)) (4 : Int32)) &&& (7 : Int32)) - (3 : Int32)))] [(.int (((Jvm.Free.XT.ushr (Jvm.Free.XT.ushr i1 (1 : Int32)) (4 : Int32)) &&& (7 : Int32)) - (3 : Int32))), (.int (104 : Int32))])
      refine own_go (fun t k => XS.iadd X14.here hx rfl (hb hby at_94) rfl k) ?_
      show own_G p e below _ T14 (mkF m 95 #[.val (.int i0), .val (.int i1), .unset, .val (.ref a4), .val (.int (Jvm.Free.XT.ushr i1 (1 : Int32))), .val (.int (4 : Int32)), .val (.int (((Jvm.Free.XT.ushr (Jvm.Free.XT.ushr i1 (1 : Int32)) (4 : Int32)) &&& (7 : Int32)) - (3 : Int32)))] [(.int ((104 : Int32) + (((Jvm.Free.XT.ushr (Jvm.Free.XT.ushr i1 (1 : Int32)) (4 : Int32)) &&& (7 : Int32)) - (3 : Int32))))])
      refine own_go (fun t k => XS.istoreN X14.here hx rfl (hb hby at_95) rfl (l' := #[.val (.int i0), .val (.int i1), .val (.int ((104 : Int32) + (((Jvm.Free.XT.ushr (Jvm.Free.XT.ushr i1 (1 : Int32)) (4 : Int32)) &&& (7 : Int32)) - (3 : Int32)))), .val (.ref a4), .val (.int (Jvm.Free.XT.ushr i1 (1 : Int32))), .val (.int (4 : Int32)), .val (.int (((Jvm.Free.XT.ushr (Jvm.Free.XT.ushr i1 (1 : Int32)) (4 : Int32)) &&& (7 : Int32)) - (3 : Int32)))]) rfl k) ?_
      show own_G p e below _ T14 (mkF m 96 #[.val (.int i0), .val (.int i1), .val (.int ((104 : Int32) + (((Jvm.Free.XT.ushr (Jvm.Free.XT.ushr i1 (1 : Int32)) (4 : Int32)) &&& (7 : Int32)) - (3 : Int32)))), .val (.ref a4), .val (.int (Jvm.Free.XT.ushr i1 (1 : Int32))), .val (.int (4 : Int32)), .val (.int (((Jvm.Free.XT.ushr (Jvm.Free.XT.ushr i1 (1 : Int32)) (4 : Int32)) &&& (7 : Int32)) - (3 : Int32)))] [])
      refine own_go (fun t k => XS.goto X14.here hx rfl (pc0 := 96) (pc' := 101) rfl (hb hby at_96) (by decide) (by decide) k) ?_
      show own_G p e below _ T14 (mkF m 101 #[.val (.int i0), .val (.int i1), .val (.int ((104 : Int32) + (((Jvm.Free.XT.ushr (Jvm.Free.XT.ushr i1 (1 : Int32)) (4 : Int32)) &&& (7 : Int32)) - (3 : Int32)))), .val (.ref a4), .val (.int (Jvm.Free.XT.ushr i1 (1 : Int32))), .val (.int (4 : Int32)), .val (.int (((Jvm.Free.XT.ushr (Jvm.Free.XT.ushr i1 (1 : Int32)) (4 : Int32)) &&& (7 : Int32)) - (3 : Int32)))] [])
      refine own_go (fun t k => XS.iloadN X14.here hx rfl (hb hby at_101) rfl k) ?_
      show own_G p e below _ T14 (mkF m 102 #[.val (.int i0), .val (.int i1), .val (.int ((104 : Int32) + (((Jvm.Free.XT.ushr (Jvm.Free.XT.ushr i1 (1 : Int32)) (4 : Int32)) &&& (7 : Int32)) - (3 : Int32)))), .val (.ref a4), .val (.int (Jvm.Free.XT.ushr i1 (1 : Int32))), .val (.int (4 : Int32)), .val (.int (((Jvm.Free.XT.ushr (Jvm.Free.XT.ushr i1 (1 : Int32)) (4 : Int32)) &&& (7 : Int32)) - (3 : Int32)))] [(.int ((104 : Int32) + (((Jvm.Free.XT.ushr (Jvm.Free.XT.ushr i1 (1 : Int32)) (4 : Int32)) &&& (7 : Int32)) - (3 : Int32))))])
      obtain ⟨T28, L28, v28, X28, ⟨rfl, rfl, q28⟩, st28⟩ := own_callS X14 hx hZ (y := (⟨"com/example/canonry/canonry/Operation", "ofRequestTag", "(I)Lcom/example/canonry/canonry/Operation;"⟩ : MethodName)) hown (hw _ (List.mem_of_getElem? (i := 1) rfl)) (hw _ (List.mem_of_getElem? (i := 2) rfl)) (hw _ (List.mem_of_getElem? (i := 3) rfl)) (hw _ (List.mem_of_getElem? (i := 4) rfl)) (by decide) (c_of l Z a0 hw a_VALUES a_BIND a_UNBIND a_SEARCH a_MODIFY a_ADD a_DELETE a_MODIFY_DN a_COMPARE a_ABANDON a_EXTENDED cl_VALUES ((104 : Int32) + (((Jvm.Free.XT.ushr (Jvm.Free.XT.ushr i1 (1 : Int32)) (4 : Int32)) &&& (7 : Int32)) - (3 : Int32))) h14 (own_B_ext x14 B) ) e14 (argsL := [(.int ((104 : Int32) + (((Jvm.Free.XT.ushr (Jvm.Free.XT.ushr i1 (1 : Int32)) (4 : Int32)) &&& (7 : Int32)) - (3 : Int32))))]) (rest := []) (g := (mkF m 102 #[.val (.int i0), .val (.int i1), .val (.int ((104 : Int32) + (((Jvm.Free.XT.ushr (Jvm.Free.XT.ushr i1 (1 : Int32)) (4 : Int32)) &&& (7 : Int32)) - (3 : Int32)))), .val (.ref a4), .val (.int (Jvm.Free.XT.ushr i1 (1 : Int32))), .val (.int (4 : Int32)), .val (.int (((Jvm.Free.XT.ushr (Jvm.Free.XT.ushr i1 (1 : Int32)) (4 : Int32)) &&& (7 : Int32)) - (3 : Int32)))] [(.int ((104 : Int32) + (((Jvm.Free.XT.ushr (Jvm.Free.XT.ushr i1 (1 : Int32)) (4 : Int32)) &&& (7 : Int32)) - (3 : Int32))))])) rfl (by rw [hml]; rfl) (ps := [.int]) (r := (some (.object "com/example/canonry/canonry/Operation"))) (by decide +kernel) rfl rfl (W := 0) (by show 2 * 0 + _ ≤ _; exact Nat.le_of_eq rfl) (hb hby at_102) (by decide) (by decide) (by decide) (by decide)
      have x28 := own_ext_trans x14 q28
      have A29 := A14.ext q28
      have N28 := Fr.app N14 (Fr.nil n0)
      refine own_go st28 ?_
      show own_G p e below _ T28 (mkF m 105 #[.val (.int i0), .val (.int i1), .val (.int ((104 : Int32) + (((Jvm.Free.XT.ushr (Jvm.Free.XT.ushr i1 (1 : Int32)) (4 : Int32)) &&& (7 : Int32)) - (3 : Int32)))), .val (.ref a4), .val (.int (Jvm.Free.XT.ushr i1 (1 : Int32))), .val (.int (4 : Int32)), .val (.int (((Jvm.Free.XT.ushr (Jvm.Free.XT.ushr i1 (1 : Int32)) (4 : Int32)) &&& (7 : Int32)) - (3 : Int32)))] [(own_of a_VALUES a_BIND a_UNBIND a_SEARCH a_MODIFY a_ADD a_DELETE a_MODIFY_DN a_COMPARE a_ABANDON a_EXTENDED cl_VALUES ((104 : Int32) + (((Jvm.Free.XT.ushr (Jvm.Free.XT.ushr i1 (1 : Int32)) (4 : Int32)) &&& (7 : Int32)) - (3 : Int32))))])
      refine own_go (fun t k => XS.astoreN X28.here hx rfl (hb hby at_105) rfl (own_of_ref a_VALUES a_BIND a_UNBIND a_SEARCH a_MODIFY a_ADD a_DELETE a_MODIFY_DN a_COMPARE a_ABANDON a_EXTENDED cl_VALUES ((104 : Int32) + (((Jvm.Free.XT.ushr (Jvm.Free.XT.ushr i1 (1 : Int32)) (4 : Int32)) &&& (7 : Int32)) - (3 : Int32)))) (l' := #[.val (.int i0), .val (.int i1), .val (.int ((104 : Int32) + (((Jvm.Free.XT.ushr (Jvm.Free.XT.ushr i1 (1 : Int32)) (4 : Int32)) &&& (7 : Int32)) - (3 : Int32)))), .val (own_of a_VALUES a_BIND a_UNBIND a_SEARCH a_MODIFY a_ADD a_DELETE a_MODIFY_DN a_COMPARE a_ABANDON a_EXTENDED cl_VALUES ((104 : Int32) + (((Jvm.Free.XT.ushr (Jvm.Free.XT.ushr i1 (1 : Int32)) (4 : Int32)) &&& (7 : Int32)) - (3 : Int32)))), .val (.int (Jvm.Free.XT.ushr i1 (1 : Int32))), .val (.int (4 : Int32)), .val (.int (((Jvm.Free.XT.ushr (Jvm.Free.XT.ushr i1 (1 : Int32)) (4 : Int32)) &&& (7 : Int32)) - (3 : Int32)))]) (XS.store1 (o := .val (.ref a4)) rfl (Or.inr ⟨_, rfl, rfl⟩) (own_cat (own_of_ref a_VALUES a_BIND a_UNBIND a_SEARCH a_MODIFY a_ADD a_DELETE a_MODIFY_DN a_COMPARE a_ABANDON a_EXTENDED cl_VALUES ((104 : Int32) + (((Jvm.Free.XT.ushr (Jvm.Free.XT.ushr i1 (1 : Int32)) (4 : Int32)) &&& (7 : Int32)) - (3 : Int32)))))) k) ?_
      show own_G p e below _ T28 (mkF m 106 #[.val (.int i0), .val (.int i1), .val (.int ((104 : Int32) + (((Jvm.Free.XT.ushr (Jvm.Free.XT.ushr i1 (1 : Int32)) (4 : Int32)) &&& (7 : Int32)) - (3 : Int32)))), .val (own_of a_VALUES a_BIND a_UNBIND a_SEARCH a_MODIFY a_ADD a_DELETE a_MODIFY_DN a_COMPARE a_ABANDON a_EXTENDED cl_VALUES ((104 : Int32) + (((Jvm.Free.XT.ushr (Jvm.Free.XT.ushr i1 (1 : Int32)) (4 : Int32)) &&& (7 : Int32)) - (3 : Int32)))), .val (.int (Jvm.Free.XT.ushr i1 (1 : Int32))), .val (.int (4 : Int32)), .val (.int (((Jvm.Free.XT.ushr (Jvm.Free.XT.ushr i1 (1 : Int32)) (4 : Int32)) &&& (7 : Int32)) - (3 : Int32)))] [])
      refine own_go (fun t k => XS.aloadN X28.here hx rfl (hb hby at_106) rfl (own_of_ref a_VALUES a_BIND a_UNBIND a_SEARCH a_MODIFY a_ADD a_DELETE a_MODIFY_DN a_COMPARE a_ABANDON a_EXTENDED cl_VALUES ((104 : Int32) + (((Jvm.Free.XT.ushr (Jvm.Free.XT.ushr i1 (1 : Int32)) (4 : Int32)) &&& (7 : Int32)) - (3 : Int32)))) k) ?_
      show own_G p e below _ T28 (mkF m 107 #[.val (.int i0), .val (.int i1), .val (.int ((104 : Int32) + (((Jvm.Free.XT.ushr (Jvm.Free.XT.ushr i1 (1 : Int32)) (4 : Int32)) &&& (7 : Int32)) - (3 : Int32)))), .val (own_of a_VALUES a_BIND a_UNBIND a_SEARCH a_MODIFY a_ADD a_DELETE a_MODIFY_DN a_COMPARE a_ABANDON a_EXTENDED cl_VALUES ((104 : Int32) + (((Jvm.Free.XT.ushr (Jvm.Free.XT.ushr i1 (1 : Int32)) (4 : Int32)) &&& (7 : Int32)) - (3 : Int32)))), .val (.int (Jvm.Free.XT.ushr i1 (1 : Int32))), .val (.int (4 : Int32)), .val (.int (((Jvm.Free.XT.ushr (Jvm.Free.XT.ushr i1 (1 : Int32)) (4 : Int32)) &&& (7 : Int32)) - (3 : Int32)))] [(own_of a_VALUES a_BIND a_UNBIND a_SEARCH a_MODIFY a_ADD a_DELETE a_MODIFY_DN a_COMPARE a_ABANDON a_EXTENDED cl_VALUES ((104 : Int32) + (((Jvm.Free.XT.ushr (Jvm.Free.XT.ushr i1 (1 : Int32)) (4 : Int32)) &&& (7 : Int32)) - (3 : Int32))))])
      refine own_go (fun t k => XS.iloadN X28.here hx rfl (hb hby at_107) rfl k) ?_
      show own_G p e below _ T28 (mkF m 108 #[.val (.int i0), .val (.int i1), .val (.int ((104 : Int32) + (((Jvm.Free.XT.ushr (Jvm.Free.XT.ushr i1 (1 : Int32)) (4 : Int32)) &&& (7 : Int32)) - (3 : Int32)))), .val (own_of a_VALUES a_BIND a_UNBIND a_SEARCH a_MODIFY a_ADD a_DELETE a_MODIFY_DN a_COMPARE a_ABANDON a_EXTENDED cl_VALUES ((104 : Int32) + (((Jvm.Free.XT.ushr (Jvm.Free.XT.ushr i1 (1 : Int32)) (4 : Int32)) &&& (7 : Int32)) - (3 : Int32)))), .val (.int (Jvm.Free.XT.ushr i1 (1 : Int32))), .val (.int (4 : Int32)), .val (.int (((Jvm.Free.XT.ushr (Jvm.Free.XT.ushr i1 (1 : Int32)) (4 : Int32)) &&& (7 : Int32)) - (3 : Int32)))] [(.int ((104 : Int32) + (((Jvm.Free.XT.ushr (Jvm.Free.XT.ushr i1 (1 : Int32)) (4 : Int32)) &&& (7 : Int32)) - (3 : Int32)))), (own_of a_VALUES a_BIND a_UNBIND a_SEARCH a_MODIFY a_ADD a_DELETE a_MODIFY_DN a_COMPARE a_ABANDON a_EXTENDED cl_VALUES ((104 : Int32) + (((Jvm.Free.XT.ushr (Jvm.Free.XT.ushr i1 (1 : Int32)) (4 : Int32)) &&& (7 : Int32)) - (3 : Int32))))])
      obtain ⟨T30, L30, v30, X30, ⟨rfl, rfl, q30⟩, st30⟩ := own_callS X28 hx hZ (y := (⟨"com/example/canonry/canonry/OperationOfRequestTagPinLaw", "expected", "(I)Lcom/example/canonry/canonry/Operation;"⟩ : MethodName)) hown (hw _ (List.mem_of_getElem? (i := 32) rfl)) (hw _ (List.mem_of_getElem? (i := 33) rfl)) (hw _ (List.mem_of_getElem? (i := 34) rfl)) (hw _ (List.mem_of_getElem? (i := 35) rfl)) (by decide) (c_exp l Z a0 hw a_VALUES a_BIND a_UNBIND a_SEARCH a_MODIFY a_ADD a_DELETE a_MODIFY_DN a_COMPARE a_ABANDON a_EXTENDED cl_VALUES ((104 : Int32) + (((Jvm.Free.XT.ushr (Jvm.Free.XT.ushr i1 (1 : Int32)) (4 : Int32)) &&& (7 : Int32)) - (3 : Int32))) T28.heap (own_B_ext x28 B) ) rfl (argsL := [(.int ((104 : Int32) + (((Jvm.Free.XT.ushr (Jvm.Free.XT.ushr i1 (1 : Int32)) (4 : Int32)) &&& (7 : Int32)) - (3 : Int32))))]) (rest := [(own_of a_VALUES a_BIND a_UNBIND a_SEARCH a_MODIFY a_ADD a_DELETE a_MODIFY_DN a_COMPARE a_ABANDON a_EXTENDED cl_VALUES ((104 : Int32) + (((Jvm.Free.XT.ushr (Jvm.Free.XT.ushr i1 (1 : Int32)) (4 : Int32)) &&& (7 : Int32)) - (3 : Int32))))]) (g := (mkF m 108 #[.val (.int i0), .val (.int i1), .val (.int ((104 : Int32) + (((Jvm.Free.XT.ushr (Jvm.Free.XT.ushr i1 (1 : Int32)) (4 : Int32)) &&& (7 : Int32)) - (3 : Int32)))), .val (own_of a_VALUES a_BIND a_UNBIND a_SEARCH a_MODIFY a_ADD a_DELETE a_MODIFY_DN a_COMPARE a_ABANDON a_EXTENDED cl_VALUES ((104 : Int32) + (((Jvm.Free.XT.ushr (Jvm.Free.XT.ushr i1 (1 : Int32)) (4 : Int32)) &&& (7 : Int32)) - (3 : Int32)))), .val (.int (Jvm.Free.XT.ushr i1 (1 : Int32))), .val (.int (4 : Int32)), .val (.int (((Jvm.Free.XT.ushr (Jvm.Free.XT.ushr i1 (1 : Int32)) (4 : Int32)) &&& (7 : Int32)) - (3 : Int32)))] [(.int ((104 : Int32) + (((Jvm.Free.XT.ushr (Jvm.Free.XT.ushr i1 (1 : Int32)) (4 : Int32)) &&& (7 : Int32)) - (3 : Int32)))), (own_of a_VALUES a_BIND a_UNBIND a_SEARCH a_MODIFY a_ADD a_DELETE a_MODIFY_DN a_COMPARE a_ABANDON a_EXTENDED cl_VALUES ((104 : Int32) + (((Jvm.Free.XT.ushr (Jvm.Free.XT.ushr i1 (1 : Int32)) (4 : Int32)) &&& (7 : Int32)) - (3 : Int32))))])) rfl (by rw [hml]; rfl) (ps := [.int]) (r := (some (.object "com/example/canonry/canonry/Operation"))) (by decide +kernel) rfl rfl (W := 1) (by show 2 * 0 + _ ≤ _; simp [own_cat (own_of_ref a_VALUES a_BIND a_UNBIND a_SEARCH a_MODIFY a_ADD a_DELETE a_MODIFY_DN a_COMPARE a_ABANDON a_EXTENDED cl_VALUES ((104 : Int32) + (((Jvm.Free.XT.ushr (Jvm.Free.XT.ushr i1 (1 : Int32)) (4 : Int32)) &&& (7 : Int32)) - (3 : Int32))))]) (hb hby at_108) (by decide) (by decide) (by decide) (by decide)
      have N30 := Fr.app N28 (Fr.nil n0)
      refine own_go st30 ?_
      show own_G p e below _ T30 (mkF m 111 #[.val (.int i0), .val (.int i1), .val (.int ((104 : Int32) + (((Jvm.Free.XT.ushr (Jvm.Free.XT.ushr i1 (1 : Int32)) (4 : Int32)) &&& (7 : Int32)) - (3 : Int32)))), .val (own_of a_VALUES a_BIND a_UNBIND a_SEARCH a_MODIFY a_ADD a_DELETE a_MODIFY_DN a_COMPARE a_ABANDON a_EXTENDED cl_VALUES ((104 : Int32) + (((Jvm.Free.XT.ushr (Jvm.Free.XT.ushr i1 (1 : Int32)) (4 : Int32)) &&& (7 : Int32)) - (3 : Int32)))), .val (.int (Jvm.Free.XT.ushr i1 (1 : Int32))), .val (.int (4 : Int32)), .val (.int (((Jvm.Free.XT.ushr (Jvm.Free.XT.ushr i1 (1 : Int32)) (4 : Int32)) &&& (7 : Int32)) - (3 : Int32)))] [(own_exp a_VALUES a_BIND a_UNBIND a_SEARCH a_MODIFY a_ADD a_DELETE a_MODIFY_DN a_COMPARE a_ABANDON a_EXTENDED cl_VALUES ((104 : Int32) + (((Jvm.Free.XT.ushr (Jvm.Free.XT.ushr i1 (1 : Int32)) (4 : Int32)) &&& (7 : Int32)) - (3 : Int32)))), (own_of a_VALUES a_BIND a_UNBIND a_SEARCH a_MODIFY a_ADD a_DELETE a_MODIFY_DN a_COMPARE a_ABANDON a_EXTENDED cl_VALUES ((104 : Int32) + (((Jvm.Free.XT.ushr (Jvm.Free.XT.ushr i1 (1 : Int32)) (4 : Int32)) &&& (7 : Int32)) - (3 : Int32))))])
      refine own_go (fun t k => Jvm.Free.XT.acmpNo X30.here hx rfl (hb hby at_111) rfl (own_of_ref a_VALUES a_BIND a_UNBIND a_SEARCH a_MODIFY a_ADD a_DELETE a_MODIFY_DN a_COMPARE a_ABANDON a_EXTENDED cl_VALUES ((104 : Int32) + (((Jvm.Free.XT.ushr (Jvm.Free.XT.ushr i1 (1 : Int32)) (4 : Int32)) &&& (7 : Int32)) - (3 : Int32)))) (own_exp_ref a_VALUES a_BIND a_UNBIND a_SEARCH a_MODIFY a_ADD a_DELETE a_MODIFY_DN a_COMPARE a_ABANDON a_EXTENDED cl_VALUES ((104 : Int32) + (((Jvm.Free.XT.ushr (Jvm.Free.XT.ushr i1 (1 : Int32)) (4 : Int32)) &&& (7 : Int32)) - (3 : Int32)))) (own_acVF (own_same a_VALUES a_BIND a_UNBIND a_SEARCH a_MODIFY a_ADD a_DELETE a_MODIFY_DN a_COMPARE a_ABANDON a_EXTENDED cl_VALUES ((104 : Int32) + (((Jvm.Free.XT.ushr (Jvm.Free.XT.ushr i1 (1 : Int32)) (4 : Int32)) &&& (7 : Int32)) - (3 : Int32))))) k) ?_
      show own_G p e below _ T30 (mkF m 114 #[.val (.int i0), .val (.int i1), .val (.int ((104 : Int32) + (((Jvm.Free.XT.ushr (Jvm.Free.XT.ushr i1 (1 : Int32)) (4 : Int32)) &&& (7 : Int32)) - (3 : Int32)))), .val (own_of a_VALUES a_BIND a_UNBIND a_SEARCH a_MODIFY a_ADD a_DELETE a_MODIFY_DN a_COMPARE a_ABANDON a_EXTENDED cl_VALUES ((104 : Int32) + (((Jvm.Free.XT.ushr (Jvm.Free.XT.ushr i1 (1 : Int32)) (4 : Int32)) &&& (7 : Int32)) - (3 : Int32)))), .val (.int (Jvm.Free.XT.ushr i1 (1 : Int32))), .val (.int (4 : Int32)), .val (.int (((Jvm.Free.XT.ushr (Jvm.Free.XT.ushr i1 (1 : Int32)) (4 : Int32)) &&& (7 : Int32)) - (3 : Int32)))] [])
      refine own_go (fun t k => XS.iconst X30.here hx rfl (hb hby at_114) k) ?_
      show own_G p e below _ T30 (mkF m 115 #[.val (.int i0), .val (.int i1), .val (.int ((104 : Int32) + (((Jvm.Free.XT.ushr (Jvm.Free.XT.ushr i1 (1 : Int32)) (4 : Int32)) &&& (7 : Int32)) - (3 : Int32)))), .val (own_of a_VALUES a_BIND a_UNBIND a_SEARCH a_MODIFY a_ADD a_DELETE a_MODIFY_DN a_COMPARE a_ABANDON a_EXTENDED cl_VALUES ((104 : Int32) + (((Jvm.Free.XT.ushr (Jvm.Free.XT.ushr i1 (1 : Int32)) (4 : Int32)) &&& (7 : Int32)) - (3 : Int32)))), .val (.int (Jvm.Free.XT.ushr i1 (1 : Int32))), .val (.int (4 : Int32)), .val (.int (((Jvm.Free.XT.ushr (Jvm.Free.XT.ushr i1 (1 : Int32)) (4 : Int32)) &&& (7 : Int32)) - (3 : Int32)))] [(.int (1 : Int32))])
      refine own_go (fun t k => XS.goto X30.here hx rfl (pc0 := 115) (pc' := 119) rfl (hb hby at_115) (by decide) (by decide) k) ?_
      show own_G p e below _ T30 (mkF m 119 #[.val (.int i0), .val (.int i1), .val (.int ((104 : Int32) + (((Jvm.Free.XT.ushr (Jvm.Free.XT.ushr i1 (1 : Int32)) (4 : Int32)) &&& (7 : Int32)) - (3 : Int32)))), .val (own_of a_VALUES a_BIND a_UNBIND a_SEARCH a_MODIFY a_ADD a_DELETE a_MODIFY_DN a_COMPARE a_ABANDON a_EXTENDED cl_VALUES ((104 : Int32) + (((Jvm.Free.XT.ushr (Jvm.Free.XT.ushr i1 (1 : Int32)) (4 : Int32)) &&& (7 : Int32)) - (3 : Int32)))), .val (.int (Jvm.Free.XT.ushr i1 (1 : Int32))), .val (.int (4 : Int32)), .val (.int (((Jvm.Free.XT.ushr (Jvm.Free.XT.ushr i1 (1 : Int32)) (4 : Int32)) &&& (7 : Int32)) - (3 : Int32)))] [(.int (1 : Int32))])
      exact own_retN X30 hx hlk hret (by simp) (hb hby at_119) (by decide) (by decide) ⟨rfl, N30⟩
    · rw [hk15]
      show own_G p e below _ T14 (mkF m 88 #[.val (.int i0), .val (.int i1), .unset, .val (.ref a4), .val (.int (Jvm.Free.XT.ushr i1 (1 : Int32))), .val (.int (5 : Int32)), .val (.int (((Jvm.Free.XT.ushr (Jvm.Free.XT.ushr i1 (1 : Int32)) (4 : Int32)) &&& (7 : Int32)) - (3 : Int32)))] [])
      refine own_go (fun t k => XS.aloadN X14.here hx rfl (hb hby at_88) rfl rfl k) ?_
      show own_G p e below _ T14 (mkF m 89 #[.val (.int i0), .val (.int i1), .unset, .val (.ref a4), .val (.int (Jvm.Free.XT.ushr i1 (1 : Int32))), .val (.int (5 : Int32)), .val (.int (((Jvm.Free.XT.ushr (Jvm.Free.XT.ushr i1 (1 : Int32)) (4 : Int32)) &&& (7 : Int32)) - (3 : Int32)))] [(.ref a4)])
      refine own_go (fun t k => XS.iload X14.here hx rfl (hb hby at_89) rfl k) ?_
      show own_G p e below _ T14 (mkF m 91 #[.val (.int i0), .val (.int i1), .unset, .val (.ref a4), .val (.int (Jvm.Free.XT.ushr i1 (1 : Int32))), .val (.int (5 : Int32)), .val (.int (((Jvm.Free.XT.ushr (Jvm.Free.XT.ushr i1 (1 : Int32)) (4 : Int32)) &&& (7 : Int32)) - (3 : Int32)))] [(.int (5 : Int32)), (.ref a4)])
      refine own_go (X14.iaload hx (j := (5 : Int32)) (v := (.int (74 : Int32))) (own_cellAt e14 A14) (State.isArrayOf_alike hZ.alike A14.2.1) A14.2.2 (own_in (n := 10) rfl (by decide)) rfl (g := (mkF m 91 #[.val (.int i0), .val (.int i1), .unset, .val (.ref a4), .val (.int (Jvm.Free.XT.ushr i1 (1 : Int32))), .val (.int (5 : Int32)), .val (.int (((Jvm.Free.XT.ushr (Jvm.Free.XT.ushr i1 (1 : Int32)) (4 : Int32)) &&& (7 : Int32)) - (3 : Int32)))] [(.int (5 : Int32)), (.ref a4)])) rfl rfl (hb hby at_91)) ?_
      show own_G p e below _ T14 (mkF m 92 #[.val (.int i0), .val (.int i1), .unset, .val (.ref a4), .val (.int (Jvm.Free.XT.ushr i1 (1 : Int32))), .val (.int (5 : Int32)), .val (.int (((Jvm.Free.XT.ushr (Jvm.Free.XT.ushr i1 (1 : Int32)) (4 : Int32)) &&& (7 : Int32)) - (3 : Int32)))] [(.int (74 : Int32))])
      refine own_go (fun t k => XS.iload X14.here hx rfl (hb hby at_92) rfl k) ?_
      show own_G p e below _ T14 (mkF m 94 #[.val (.int i0), .val (.int i1), .unset, .val (.ref a4), .val (.int (Jvm.Free.XT.ushr i1 (1 : Int32))), .val (.int (5 : Int32)), .val (.int (((Jvm.Free.XT.ushr (Jvm.Free.XT.ushr i1 (1 : Int32)) (4 : Int32)) &&& (7 : Int32)) - (3 : Int32)))] [(.int (((Jvm.Free.XT.ushr (Jvm.Free.XT.ushr i1 (1 : Int32)) (4 : Int32)) &&& (7 : Int32)) - (3 : Int32))), (.int (74 : Int32))])
      refine own_go (fun t k => XS.iadd X14.here hx rfl (hb hby at_94) rfl k) ?_
      show own_G p e below _ T14 (mkF m 95 #[.val (.int i0), .val (.int i1), .unset, .val (.ref a4), .val (.int (Jvm.Free.XT.ushr i1 (1 : Int32))), .val (.int (5 : Int32)), .val (.int (((Jvm.Free.XT.ushr (Jvm.Free.XT.ushr i1 (1 : Int32)) (4 : Int32)) &&& (7 : Int32)) - (3 : Int32)))] [(.int ((74 : Int32) + (((Jvm.Free.XT.ushr (Jvm.Free.XT.ushr i1 (1 : Int32)) (4 : Int32)) &&& (7 : Int32)) - (3 : Int32))))])
      refine own_go (fun t k => XS.istoreN X14.here hx rfl (hb hby at_95) rfl (l' := #[.val (.int i0), .val (.int i1), .val (.int ((74 : Int32) + (((Jvm.Free.XT.ushr (Jvm.Free.XT.ushr i1 (1 : Int32)) (4 : Int32)) &&& (7 : Int32)) - (3 : Int32)))), .val (.ref a4), .val (.int (Jvm.Free.XT.ushr i1 (1 : Int32))), .val (.int (5 : Int32)), .val (.int (((Jvm.Free.XT.ushr (Jvm.Free.XT.ushr i1 (1 : Int32)) (4 : Int32)) &&& (7 : Int32)) - (3 : Int32)))]) rfl k) ?_
      show own_G p e below _ T14 (mkF m 96 #[.val (.int i0), .val (.int i1), .val (.int ((74 : Int32) + (((Jvm.Free.XT.ushr (Jvm.Free.XT.ushr i1 (1 : Int32)) (4 : Int32)) &&& (7 : Int32)) - (3 : Int32)))), .val (.ref a4), .val (.int (Jvm.Free.XT.ushr i1 (1 : Int32))), .val (.int (5 : Int32)), .val (.int (((Jvm.Free.XT.ushr (Jvm.Free.XT.ushr i1 (1 : Int32)) (4 : Int32)) &&& (7 : Int32)) - (3 : Int32)))] [])
      refine own_go (fun t k => XS.goto X14.here hx rfl (pc0 := 96) (pc' := 101) rfl (hb hby at_96) (by decide) (by decide) k) ?_
      show own_G p e below _ T14 (mkF m 101 #[.val (.int i0), .val (.int i1), .val (.int ((74 : Int32) + (((Jvm.Free.XT.ushr (Jvm.Free.XT.ushr i1 (1 : Int32)) (4 : Int32)) &&& (7 : Int32)) - (3 : Int32)))), .val (.ref a4), .val (.int (Jvm.Free.XT.ushr i1 (1 : Int32))), .val (.int (5 : Int32)), .val (.int (((Jvm.Free.XT.ushr (Jvm.Free.XT.ushr i1 (1 : Int32)) (4 : Int32)) &&& (7 : Int32)) - (3 : Int32)))] [])
      refine own_go (fun t k => XS.iloadN X14.here hx rfl (hb hby at_101) rfl k) ?_
      show own_G p e below _ T14 (mkF m 102 #[.val (.int i0), .val (.int i1), .val (.int ((74 : Int32) + (((Jvm.Free.XT.ushr (Jvm.Free.XT.ushr i1 (1 : Int32)) (4 : Int32)) &&& (7 : Int32)) - (3 : Int32)))), .val (.ref a4), .val (.int (Jvm.Free.XT.ushr i1 (1 : Int32))), .val (.int (5 : Int32)), .val (.int (((Jvm.Free.XT.ushr (Jvm.Free.XT.ushr i1 (1 : Int32)) (4 : Int32)) &&& (7 : Int32)) - (3 : Int32)))] [(.int ((74 : Int32) + (((Jvm.Free.XT.ushr (Jvm.Free.XT.ushr i1 (1 : Int32)) (4 : Int32)) &&& (7 : Int32)) - (3 : Int32))))])
      obtain ⟨T31, L31, v31, X31, ⟨rfl, rfl, q31⟩, st31⟩ := own_callS X14 hx hZ (y := (⟨"com/example/canonry/canonry/Operation", "ofRequestTag", "(I)Lcom/example/canonry/canonry/Operation;"⟩ : MethodName)) hown (hw _ (List.mem_of_getElem? (i := 1) rfl)) (hw _ (List.mem_of_getElem? (i := 2) rfl)) (hw _ (List.mem_of_getElem? (i := 3) rfl)) (hw _ (List.mem_of_getElem? (i := 4) rfl)) (by decide) (c_of l Z a0 hw a_VALUES a_BIND a_UNBIND a_SEARCH a_MODIFY a_ADD a_DELETE a_MODIFY_DN a_COMPARE a_ABANDON a_EXTENDED cl_VALUES ((74 : Int32) + (((Jvm.Free.XT.ushr (Jvm.Free.XT.ushr i1 (1 : Int32)) (4 : Int32)) &&& (7 : Int32)) - (3 : Int32))) h14 (own_B_ext x14 B) ) e14 (argsL := [(.int ((74 : Int32) + (((Jvm.Free.XT.ushr (Jvm.Free.XT.ushr i1 (1 : Int32)) (4 : Int32)) &&& (7 : Int32)) - (3 : Int32))))]) (rest := []) (g := (mkF m 102 #[.val (.int i0), .val (.int i1), .val (.int ((74 : Int32) + (((Jvm.Free.XT.ushr (Jvm.Free.XT.ushr i1 (1 : Int32)) (4 : Int32)) &&& (7 : Int32)) - (3 : Int32)))), .val (.ref a4), .val (.int (Jvm.Free.XT.ushr i1 (1 : Int32))), .val (.int (5 : Int32)), .val (.int (((Jvm.Free.XT.ushr (Jvm.Free.XT.ushr i1 (1 : Int32)) (4 : Int32)) &&& (7 : Int32)) - (3 : Int32)))] [(.int ((74 : Int32) + (((Jvm.Free.XT.ushr (Jvm.Free.XT.ushr i1 (1 : Int32)) (4 : Int32)) &&& (7 : Int32)) - (3 : Int32))))])) rfl (by rw [hml]; rfl) (ps := [.int]) (r := (some (.object "com/example/canonry/canonry/Operation"))) (by decide +kernel) rfl rfl (W := 0) (by show 2 * 0 + _ ≤ _; exact Nat.le_of_eq rfl) (hb hby at_102) (by decide) (by decide) (by decide) (by decide)
      have x31 := own_ext_trans x14 q31
      have A32 := A14.ext q31
      have N31 := Fr.app N14 (Fr.nil n0)
      refine own_go st31 ?_
      show own_G p e below _ T31 (mkF m 105 #[.val (.int i0), .val (.int i1), .val (.int ((74 : Int32) + (((Jvm.Free.XT.ushr (Jvm.Free.XT.ushr i1 (1 : Int32)) (4 : Int32)) &&& (7 : Int32)) - (3 : Int32)))), .val (.ref a4), .val (.int (Jvm.Free.XT.ushr i1 (1 : Int32))), .val (.int (5 : Int32)), .val (.int (((Jvm.Free.XT.ushr (Jvm.Free.XT.ushr i1 (1 : Int32)) (4 : Int32)) &&& (7 : Int32)) - (3 : Int32)))] [(own_of a_VALUES a_BIND a_UNBIND a_SEARCH a_MODIFY a_ADD a_DELETE a_MODIFY_DN a_COMPARE a_ABANDON a_EXTENDED cl_VALUES ((74 : Int32) + (((Jvm.Free.XT.ushr (Jvm.Free.XT.ushr i1 (1 : Int32)) (4 : Int32)) &&& (7 : Int32)) - (3 : Int32))))])
      refine own_go (fun t k => XS.astoreN X31.here hx rfl (hb hby at_105) rfl (own_of_ref a_VALUES a_BIND a_UNBIND a_SEARCH a_MODIFY a_ADD a_DELETE a_MODIFY_DN a_COMPARE a_ABANDON a_EXTENDED cl_VALUES ((74 : Int32) + (((Jvm.Free.XT.ushr (Jvm.Free.XT.ushr i1 (1 : Int32)) (4 : Int32)) &&& (7 : Int32)) - (3 : Int32)))) (l' := #[.val (.int i0), .val (.int i1), .val (.int ((74 : Int32) + (((Jvm.Free.XT.ushr (Jvm.Free.XT.ushr i1 (1 : Int32)) (4 : Int32)) &&& (7 : Int32)) - (3 : Int32)))), .val (own_of a_VALUES a_BIND a_UNBIND a_SEARCH a_MODIFY a_ADD a_DELETE a_MODIFY_DN a_COMPARE a_ABANDON a_EXTENDED cl_VALUES ((74 : Int32) + (((Jvm.Free.XT.ushr (Jvm.Free.XT.ushr i1 (1 : Int32)) (4 : Int32)) &&& (7 : Int32)) - (3 : Int32)))), .val (.int (Jvm.Free.XT.ushr i1 (1 : Int32))), .val (.int (5 : Int32)), .val (.int (((Jvm.Free.XT.ushr (Jvm.Free.XT.ushr i1 (1 : Int32)) (4 : Int32)) &&& (7 : Int32)) - (3 : Int32)))]) (XS.store1 (o := .val (.ref a4)) rfl (Or.inr ⟨_, rfl, rfl⟩) (own_cat (own_of_ref a_VALUES a_BIND a_UNBIND a_SEARCH a_MODIFY a_ADD a_DELETE a_MODIFY_DN a_COMPARE a_ABANDON a_EXTENDED cl_VALUES ((74 : Int32) + (((Jvm.Free.XT.ushr (Jvm.Free.XT.ushr i1 (1 : Int32)) (4 : Int32)) &&& (7 : Int32)) - (3 : Int32)))))) k) ?_
      show own_G p e below _ T31 (mkF m 106 #[.val (.int i0), .val (.int i1), .val (.int ((74 : Int32) + (((Jvm.Free.XT.ushr (Jvm.Free.XT.ushr i1 (1 : Int32)) (4 : Int32)) &&& (7 : Int32)) - (3 : Int32)))), .val (own_of a_VALUES a_BIND a_UNBIND a_SEARCH a_MODIFY a_ADD a_DELETE a_MODIFY_DN a_COMPARE a_ABANDON a_EXTENDED cl_VALUES ((74 : Int32) + (((Jvm.Free.XT.ushr (Jvm.Free.XT.ushr i1 (1 : Int32)) (4 : Int32)) &&& (7 : Int32)) - (3 : Int32)))), .val (.int (Jvm.Free.XT.ushr i1 (1 : Int32))), .val (.int (5 : Int32)), .val (.int (((Jvm.Free.XT.ushr (Jvm.Free.XT.ushr i1 (1 : Int32)) (4 : Int32)) &&& (7 : Int32)) - (3 : Int32)))] [])
      refine own_go (fun t k => XS.aloadN X31.here hx rfl (hb hby at_106) rfl (own_of_ref a_VALUES a_BIND a_UNBIND a_SEARCH a_MODIFY a_ADD a_DELETE a_MODIFY_DN a_COMPARE a_ABANDON a_EXTENDED cl_VALUES ((74 : Int32) + (((Jvm.Free.XT.ushr (Jvm.Free.XT.ushr i1 (1 : Int32)) (4 : Int32)) &&& (7 : Int32)) - (3 : Int32)))) k) ?_
      show own_G p e below _ T31 (mkF m 107 #[.val (.int i0), .val (.int i1), .val (.int ((74 : Int32) + (((Jvm.Free.XT.ushr (Jvm.Free.XT.ushr i1 (1 : Int32)) (4 : Int32)) &&& (7 : Int32)) - (3 : Int32)))), .val (own_of a_VALUES a_BIND a_UNBIND a_SEARCH a_MODIFY a_ADD a_DELETE a_MODIFY_DN a_COMPARE a_ABANDON a_EXTENDED cl_VALUES ((74 : Int32) + (((Jvm.Free.XT.ushr (Jvm.Free.XT.ushr i1 (1 : Int32)) (4 : Int32)) &&& (7 : Int32)) - (3 : Int32)))), .val (.int (Jvm.Free.XT.ushr i1 (1 : Int32))), .val (.int (5 : Int32)), .val (.int (((Jvm.Free.XT.ushr (Jvm.Free.XT.ushr i1 (1 : Int32)) (4 : Int32)) &&& (7 : Int32)) - (3 : Int32)))] [(own_of a_VALUES a_BIND a_UNBIND a_SEARCH a_MODIFY a_ADD a_DELETE a_MODIFY_DN a_COMPARE a_ABANDON a_EXTENDED cl_VALUES ((74 : Int32) + (((Jvm.Free.XT.ushr (Jvm.Free.XT.ushr i1 (1 : Int32)) (4 : Int32)) &&& (7 : Int32)) - (3 : Int32))))])
      refine own_go (fun t k => XS.iloadN X31.here hx rfl (hb hby at_107) rfl k) ?_
      show own_G p e below _ T31 (mkF m 108 #[.val (.int i0), .val (.int i1), .val (.int ((74 : Int32) + (((Jvm.Free.XT.ushr (Jvm.Free.XT.ushr i1 (1 : Int32)) (4 : Int32)) &&& (7 : Int32)) - (3 : Int32)))), .val (own_of a_VALUES a_BIND a_UNBIND a_SEARCH a_MODIFY a_ADD a_DELETE a_MODIFY_DN a_COMPARE a_ABANDON a_EXTENDED cl_VALUES ((74 : Int32) + (((Jvm.Free.XT.ushr (Jvm.Free.XT.ushr i1 (1 : Int32)) (4 : Int32)) &&& (7 : Int32)) - (3 : Int32)))), .val (.int (Jvm.Free.XT.ushr i1 (1 : Int32))), .val (.int (5 : Int32)), .val (.int (((Jvm.Free.XT.ushr (Jvm.Free.XT.ushr i1 (1 : Int32)) (4 : Int32)) &&& (7 : Int32)) - (3 : Int32)))] [(.int ((74 : Int32) + (((Jvm.Free.XT.ushr (Jvm.Free.XT.ushr i1 (1 : Int32)) (4 : Int32)) &&& (7 : Int32)) - (3 : Int32)))), (own_of a_VALUES a_BIND a_UNBIND a_SEARCH a_MODIFY a_ADD a_DELETE a_MODIFY_DN a_COMPARE a_ABANDON a_EXTENDED cl_VALUES ((74 : Int32) + (((Jvm.Free.XT.ushr (Jvm.Free.XT.ushr i1 (1 : Int32)) (4 : Int32)) &&& (7 : Int32)) - (3 : Int32))))])
      obtain ⟨T33, L33, v33, X33, ⟨rfl, rfl, q33⟩, st33⟩ := own_callS X31 hx hZ (y := (⟨"com/example/canonry/canonry/OperationOfRequestTagPinLaw", "expected", "(I)Lcom/example/canonry/canonry/Operation;"⟩ : MethodName)) hown (hw _ (List.mem_of_getElem? (i := 32) rfl)) (hw _ (List.mem_of_getElem? (i := 33) rfl)) (hw _ (List.mem_of_getElem? (i := 34) rfl)) (hw _ (List.mem_of_getElem? (i := 35) rfl)) (by decide) (c_exp l Z a0 hw a_VALUES a_BIND a_UNBIND a_SEARCH a_MODIFY a_ADD a_DELETE a_MODIFY_DN a_COMPARE a_ABANDON a_EXTENDED cl_VALUES ((74 : Int32) + (((Jvm.Free.XT.ushr (Jvm.Free.XT.ushr i1 (1 : Int32)) (4 : Int32)) &&& (7 : Int32)) - (3 : Int32))) T31.heap (own_B_ext x31 B) ) rfl (argsL := [(.int ((74 : Int32) + (((Jvm.Free.XT.ushr (Jvm.Free.XT.ushr i1 (1 : Int32)) (4 : Int32)) &&& (7 : Int32)) - (3 : Int32))))]) (rest := [(own_of a_VALUES a_BIND a_UNBIND a_SEARCH a_MODIFY a_ADD a_DELETE a_MODIFY_DN a_COMPARE a_ABANDON a_EXTENDED cl_VALUES ((74 : Int32) + (((Jvm.Free.XT.ushr (Jvm.Free.XT.ushr i1 (1 : Int32)) (4 : Int32)) &&& (7 : Int32)) - (3 : Int32))))]) (g := (mkF m 108 #[.val (.int i0), .val (.int i1), .val (.int ((74 : Int32) + (((Jvm.Free.XT.ushr (Jvm.Free.XT.ushr i1 (1 : Int32)) (4 : Int32)) &&& (7 : Int32)) - (3 : Int32)))), .val (own_of a_VALUES a_BIND a_UNBIND a_SEARCH a_MODIFY a_ADD a_DELETE a_MODIFY_DN a_COMPARE a_ABANDON a_EXTENDED cl_VALUES ((74 : Int32) + (((Jvm.Free.XT.ushr (Jvm.Free.XT.ushr i1 (1 : Int32)) (4 : Int32)) &&& (7 : Int32)) - (3 : Int32)))), .val (.int (Jvm.Free.XT.ushr i1 (1 : Int32))), .val (.int (5 : Int32)), .val (.int (((Jvm.Free.XT.ushr (Jvm.Free.XT.ushr i1 (1 : Int32)) (4 : Int32)) &&& (7 : Int32)) - (3 : Int32)))] [(.int ((74 : Int32) + (((Jvm.Free.XT.ushr (Jvm.Free.XT.ushr i1 (1 : Int32)) (4 : Int32)) &&& (7 : Int32)) - (3 : Int32)))), (own_of a_VALUES a_BIND a_UNBIND a_SEARCH a_MODIFY a_ADD a_DELETE a_MODIFY_DN a_COMPARE a_ABANDON a_EXTENDED cl_VALUES ((74 : Int32) + (((Jvm.Free.XT.ushr (Jvm.Free.XT.ushr i1 (1 : Int32)) (4 : Int32)) &&& (7 : Int32)) - (3 : Int32))))])) rfl (by rw [hml]; rfl) (ps := [.int]) (r := (some (.object "com/example/canonry/canonry/Operation"))) (by decide +kernel) rfl rfl (W := 1) (by show 2 * 0 + _ ≤ _; simp [own_cat (own_of_ref a_VALUES a_BIND a_UNBIND a_SEARCH a_MODIFY a_ADD a_DELETE a_MODIFY_DN a_COMPARE a_ABANDON a_EXTENDED cl_VALUES ((74 : Int32) + (((Jvm.Free.XT.ushr (Jvm.Free.XT.ushr i1 (1 : Int32)) (4 : Int32)) &&& (7 : Int32)) - (3 : Int32))))]) (hb hby at_108) (by decide) (by decide) (by decide) (by decide)
      have N33 := Fr.app N31 (Fr.nil n0)
      refine own_go st33 ?_
      show own_G p e below _ T33 (mkF m 111 #[.val (.int i0), .val (.int i1), .val (.int ((74 : Int32) + (((Jvm.Free.XT.ushr (Jvm.Free.XT.ushr i1 (1 : Int32)) (4 : Int32)) &&& (7 : Int32)) - (3 : Int32)))), .val (own_of a_VALUES a_BIND a_UNBIND a_SEARCH a_MODIFY a_ADD a_DELETE a_MODIFY_DN a_COMPARE a_ABANDON a_EXTENDED cl_VALUES ((74 : Int32) + (((Jvm.Free.XT.ushr (Jvm.Free.XT.ushr i1 (1 : Int32)) (4 : Int32)) &&& (7 : Int32)) - (3 : Int32)))), .val (.int (Jvm.Free.XT.ushr i1 (1 : Int32))), .val (.int (5 : Int32)), .val (.int (((Jvm.Free.XT.ushr (Jvm.Free.XT.ushr i1 (1 : Int32)) (4 : Int32)) &&& (7 : Int32)) - (3 : Int32)))] [(own_exp a_VALUES a_BIND a_UNBIND a_SEARCH a_MODIFY a_ADD a_DELETE a_MODIFY_DN a_COMPARE a_ABANDON a_EXTENDED cl_VALUES ((74 : Int32) + (((Jvm.Free.XT.ushr (Jvm.Free.XT.ushr i1 (1 : Int32)) (4 : Int32)) &&& (7 : Int32)) - (3 : Int32)))), (own_of a_VALUES a_BIND a_UNBIND a_SEARCH a_MODIFY a_ADD a_DELETE a_MODIFY_DN a_COMPARE a_ABANDON a_EXTENDED cl_VALUES ((74 : Int32) + (((Jvm.Free.XT.ushr (Jvm.Free.XT.ushr i1 (1 : Int32)) (4 : Int32)) &&& (7 : Int32)) - (3 : Int32))))])
      refine own_go (fun t k => Jvm.Free.XT.acmpNo X33.here hx rfl (hb hby at_111) rfl (own_of_ref a_VALUES a_BIND a_UNBIND a_SEARCH a_MODIFY a_ADD a_DELETE a_MODIFY_DN a_COMPARE a_ABANDON a_EXTENDED cl_VALUES ((74 : Int32) + (((Jvm.Free.XT.ushr (Jvm.Free.XT.ushr i1 (1 : Int32)) (4 : Int32)) &&& (7 : Int32)) - (3 : Int32)))) (own_exp_ref a_VALUES a_BIND a_UNBIND a_SEARCH a_MODIFY a_ADD a_DELETE a_MODIFY_DN a_COMPARE a_ABANDON a_EXTENDED cl_VALUES ((74 : Int32) + (((Jvm.Free.XT.ushr (Jvm.Free.XT.ushr i1 (1 : Int32)) (4 : Int32)) &&& (7 : Int32)) - (3 : Int32)))) (own_acVF (own_same a_VALUES a_BIND a_UNBIND a_SEARCH a_MODIFY a_ADD a_DELETE a_MODIFY_DN a_COMPARE a_ABANDON a_EXTENDED cl_VALUES ((74 : Int32) + (((Jvm.Free.XT.ushr (Jvm.Free.XT.ushr i1 (1 : Int32)) (4 : Int32)) &&& (7 : Int32)) - (3 : Int32))))) k) ?_
      show own_G p e below _ T33 (mkF m 114 #[.val (.int i0), .val (.int i1), .val (.int ((74 : Int32) + (((Jvm.Free.XT.ushr (Jvm.Free.XT.ushr i1 (1 : Int32)) (4 : Int32)) &&& (7 : Int32)) - (3 : Int32)))), .val (own_of a_VALUES a_BIND a_UNBIND a_SEARCH a_MODIFY a_ADD a_DELETE a_MODIFY_DN a_COMPARE a_ABANDON a_EXTENDED cl_VALUES ((74 : Int32) + (((Jvm.Free.XT.ushr (Jvm.Free.XT.ushr i1 (1 : Int32)) (4 : Int32)) &&& (7 : Int32)) - (3 : Int32)))), .val (.int (Jvm.Free.XT.ushr i1 (1 : Int32))), .val (.int (5 : Int32)), .val (.int (((Jvm.Free.XT.ushr (Jvm.Free.XT.ushr i1 (1 : Int32)) (4 : Int32)) &&& (7 : Int32)) - (3 : Int32)))] [])
      refine own_go (fun t k => XS.iconst X33.here hx rfl (hb hby at_114) k) ?_
      show own_G p e below _ T33 (mkF m 115 #[.val (.int i0), .val (.int i1), .val (.int ((74 : Int32) + (((Jvm.Free.XT.ushr (Jvm.Free.XT.ushr i1 (1 : Int32)) (4 : Int32)) &&& (7 : Int32)) - (3 : Int32)))), .val (own_of a_VALUES a_BIND a_UNBIND a_SEARCH a_MODIFY a_ADD a_DELETE a_MODIFY_DN a_COMPARE a_ABANDON a_EXTENDED cl_VALUES ((74 : Int32) + (((Jvm.Free.XT.ushr (Jvm.Free.XT.ushr i1 (1 : Int32)) (4 : Int32)) &&& (7 : Int32)) - (3 : Int32)))), .val (.int (Jvm.Free.XT.ushr i1 (1 : Int32))), .val (.int (5 : Int32)), .val (.int (((Jvm.Free.XT.ushr (Jvm.Free.XT.ushr i1 (1 : Int32)) (4 : Int32)) &&& (7 : Int32)) - (3 : Int32)))] [(.int (1 : Int32))])
      refine own_go (fun t k => XS.goto X33.here hx rfl (pc0 := 115) (pc' := 119) rfl (hb hby at_115) (by decide) (by decide) k) ?_
      show own_G p e below _ T33 (mkF m 119 #[.val (.int i0), .val (.int i1), .val (.int ((74 : Int32) + (((Jvm.Free.XT.ushr (Jvm.Free.XT.ushr i1 (1 : Int32)) (4 : Int32)) &&& (7 : Int32)) - (3 : Int32)))), .val (own_of a_VALUES a_BIND a_UNBIND a_SEARCH a_MODIFY a_ADD a_DELETE a_MODIFY_DN a_COMPARE a_ABANDON a_EXTENDED cl_VALUES ((74 : Int32) + (((Jvm.Free.XT.ushr (Jvm.Free.XT.ushr i1 (1 : Int32)) (4 : Int32)) &&& (7 : Int32)) - (3 : Int32)))), .val (.int (Jvm.Free.XT.ushr i1 (1 : Int32))), .val (.int (5 : Int32)), .val (.int (((Jvm.Free.XT.ushr (Jvm.Free.XT.ushr i1 (1 : Int32)) (4 : Int32)) &&& (7 : Int32)) - (3 : Int32)))] [(.int (1 : Int32))])
      exact own_retN X33 hx hlk hret (by simp) (hb hby at_119) (by decide) (by decide) ⟨rfl, N33⟩
    · rw [hk15]
      show own_G p e below _ T14 (mkF m 88 #[.val (.int i0), .val (.int i1), .unset, .val (.ref a4), .val (.int (Jvm.Free.XT.ushr i1 (1 : Int32))), .val (.int (6 : Int32)), .val (.int (((Jvm.Free.XT.ushr (Jvm.Free.XT.ushr i1 (1 : Int32)) (4 : Int32)) &&& (7 : Int32)) - (3 : Int32)))] [])
      refine own_go (fun t k => XS.aloadN X14.here hx rfl (hb hby at_88) rfl rfl k) ?_
      show own_G p e below _ T14 (mkF m 89 #[.val (.int i0), .val (.int i1), .unset, .val (.ref a4), .val (.int (Jvm.Free.XT.ushr i1 (1 : Int32))), .val (.int (6 : Int32)), .val (.int (((Jvm.Free.XT.ushr (Jvm.Free.XT.ushr i1 (1 : Int32)) (4 : Int32)) &&& (7 : Int32)) - (3 : Int32)))] [(.ref a4)])
      refine own_go (fun t k => XS.iload X14.here hx rfl (hb hby at_89) rfl k) ?_
      show own_G p e below _ T14 (mkF m 91 #[.val (.int i0), .val (.int i1), .unset, .val (.ref a4), .val (.int (Jvm.Free.XT.ushr i1 (1 : Int32))), .val (.int (6 : Int32)), .val (.int (((Jvm.Free.XT.ushr (Jvm.Free.XT.ushr i1 (1 : Int32)) (4 : Int32)) &&& (7 : Int32)) - (3 : Int32)))] [(.int (6 : Int32)), (.ref a4)])
      refine own_go (X14.iaload hx (j := (6 : Int32)) (v := (.int (108 : Int32))) (own_cellAt e14 A14) (State.isArrayOf_alike hZ.alike A14.2.1) A14.2.2 (own_in (n := 10) rfl (by decide)) rfl (g := (mkF m 91 #[.val (.int i0), .val (.int i1), .unset, .val (.ref a4), .val (.int (Jvm.Free.XT.ushr i1 (1 : Int32))), .val (.int (6 : Int32)), .val (.int (((Jvm.Free.XT.ushr (Jvm.Free.XT.ushr i1 (1 : Int32)) (4 : Int32)) &&& (7 : Int32)) - (3 : Int32)))] [(.int (6 : Int32)), (.ref a4)])) rfl rfl (hb hby at_91)) ?_
      show own_G p e below _ T14 (mkF m 92 #[.val (.int i0), .val (.int i1), .unset, .val (.ref a4), .val (.int (Jvm.Free.XT.ushr i1 (1 : Int32))), .val (.int (6 : Int32)), .val (.int (((Jvm.Free.XT.ushr (Jvm.Free.XT.ushr i1 (1 : Int32)) (4 : Int32)) &&& (7 : Int32)) - (3 : Int32)))] [(.int (108 : Int32))])
      refine own_go (fun t k => XS.iload X14.here hx rfl (hb hby at_92) rfl k) ?_
      show own_G p e below _ T14 (mkF m 94 #[.val (.int i0), .val (.int i1), .unset, .val (.ref a4), .val (.int (Jvm.Free.XT.ushr i1 (1 : Int32))), .val (.int (6 : Int32)), .val (.int (((Jvm.Free.XT.ushr (Jvm.Free.XT.ushr i1 (1 : Int32)) (4 : Int32)) &&& (7 : Int32)) - (3 : Int32)))] [(.int (((Jvm.Free.XT.ushr (Jvm.Free.XT.ushr i1 (1 : Int32)) (4 : Int32)) &&& (7 : Int32)) - (3 : Int32))), (.int (108 : Int32))])
      refine own_go (fun t k => XS.iadd X14.here hx rfl (hb hby at_94) rfl k) ?_
      show own_G p e below _ T14 (mkF m 95 #[.val (.int i0), .val (.int i1), .unset, .val (.ref a4), .val (.int (Jvm.Free.XT.ushr i1 (1 : Int32))), .val (.int (6 : Int32)), .val (.int (((Jvm.Free.XT.ushr (Jvm.Free.XT.ushr i1 (1 : Int32)) (4 : Int32)) &&& (7 : Int32)) - (3 : Int32)))] [(.int ((108 : Int32) + (((Jvm.Free.XT.ushr (Jvm.Free.XT.ushr i1 (1 : Int32)) (4 : Int32)) &&& (7 : Int32)) - (3 : Int32))))])
      refine own_go (fun t k => XS.istoreN X14.here hx rfl (hb hby at_95) rfl (l' := #[.val (.int i0), .val (.int i1), .val (.int ((108 : Int32) + (((Jvm.Free.XT.ushr (Jvm.Free.XT.ushr i1 (1 : Int32)) (4 : Int32)) &&& (7 : Int32)) - (3 : Int32)))), .val (.ref a4), .val (.int (Jvm.Free.XT.ushr i1 (1 : Int32))), .val (.int (6 : Int32)), .val (.int (((Jvm.Free.XT.ushr (Jvm.Free.XT.ushr i1 (1 : Int32)) (4 : Int32)) &&& (7 : Int32)) - (3 : Int32)))]) rfl k) ?_
      show own_G p e below _ T14 (mkF m 96 #[.val (.int i0), .val (.int i1), .val (.int ((108 : Int32) + (((Jvm.Free.XT.ushr (Jvm.Free.XT.ushr i1 (1 : Int32)) (4 : Int32)) &&& (7 : Int32)) - (3 : Int32)))), .val (.ref a4), .val (.int (Jvm.Free.XT.ushr i1 (1 : Int32))), .val (.int (6 : Int32)), .val (.int (((Jvm.Free.XT.ushr (Jvm.Free.XT.ushr i1 (1 : Int32)) (4 : Int32)) &&& (7 : Int32)) - (3 : Int32)))] [])
      refine own_go (fun t k => XS.goto X14.here hx rfl (pc0 := 96) (pc' := 101) rfl (hb hby at_96) (by decide) (by decide) k) ?_
      show own_G p e below _ T14 (mkF m 101 #[.val (.int i0), .val (.int i1), .val (.int ((108 : Int32) + (((Jvm.Free.XT.ushr (Jvm.Free.XT.ushr i1 (1 : Int32)) (4 : Int32)) &&& (7 : Int32)) - (3 : Int32)))), .val (.ref a4), .val (.int (Jvm.Free.XT.ushr i1 (1 : Int32))), .val (.int (6 : Int32)), .val (.int (((Jvm.Free.XT.ushr (Jvm.Free.XT.ushr i1 (1 : Int32)) (4 : Int32)) &&& (7 : Int32)) - (3 : Int32)))] [])
      refine own_go (fun t k => XS.iloadN X14.here hx rfl (hb hby at_101) rfl k) ?_
      show own_G p e below _ T14 (mkF m 102 #[.val (.int i0), .val (.int i1), .val (.int ((108 : Int32) + (((Jvm.Free.XT.ushr (Jvm.Free.XT.ushr i1 (1 : Int32)) (4 : Int32)) &&& (7 : Int32)) - (3 : Int32)))), .val (.ref a4), .val (.int (Jvm.Free.XT.ushr i1 (1 : Int32))), .val (.int (6 : Int32)), .val (.int (((Jvm.Free.XT.ushr (Jvm.Free.XT.ushr i1 (1 : Int32)) (4 : Int32)) &&& (7 : Int32)) - (3 : Int32)))] [(.int ((108 : Int32) + (((Jvm.Free.XT.ushr (Jvm.Free.XT.ushr i1 (1 : Int32)) (4 : Int32)) &&& (7 : Int32)) - (3 : Int32))))])
      obtain ⟨T34, L34, v34, X34, ⟨rfl, rfl, q34⟩, st34⟩ := own_callS X14 hx hZ (y := (⟨"com/example/canonry/canonry/Operation", "ofRequestTag", "(I)Lcom/example/canonry/canonry/Operation;"⟩ : MethodName)) hown (hw _ (List.mem_of_getElem? (i := 1) rfl)) (hw _ (List.mem_of_getElem? (i := 2) rfl)) (hw _ (List.mem_of_getElem? (i := 3) rfl)) (hw _ (List.mem_of_getElem? (i := 4) rfl)) (by decide) (c_of l Z a0 hw a_VALUES a_BIND a_UNBIND a_SEARCH a_MODIFY a_ADD a_DELETE a_MODIFY_DN a_COMPARE a_ABANDON a_EXTENDED cl_VALUES ((108 : Int32) + (((Jvm.Free.XT.ushr (Jvm.Free.XT.ushr i1 (1 : Int32)) (4 : Int32)) &&& (7 : Int32)) - (3 : Int32))) h14 (own_B_ext x14 B) ) e14 (argsL := [(.int ((108 : Int32) + (((Jvm.Free.XT.ushr (Jvm.Free.XT.ushr i1 (1 : Int32)) (4 : Int32)) &&& (7 : Int32)) - (3 : Int32))))]) (rest := []) (g := (mkF m 102 #[.val (.int i0), .val (.int i1), .val (.int ((108 : Int32) + (((Jvm.Free.XT.ushr (Jvm.Free.XT.ushr i1 (1 : Int32)) (4 : Int32)) &&& (7 : Int32)) - (3 : Int32)))), .val (.ref a4), .val (.int (Jvm.Free.XT.ushr i1 (1 : Int32))), .val (.int (6 : Int32)), .val (.int (((Jvm.Free.XT.ushr (Jvm.Free.XT.ushr i1 (1 : Int32)) (4 : Int32)) &&& (7 : Int32)) - (3 : Int32)))] [(.int ((108 : Int32) + (((Jvm.Free.XT.ushr (Jvm.Free.XT.ushr i1 (1 : Int32)) (4 : Int32)) &&& (7 : Int32)) - (3 : Int32))))])) rfl (by rw [hml]; rfl) (ps := [.int]) (r := (some (.object "com/example/canonry/canonry/Operation"))) (by decide +kernel) rfl rfl (W := 0) (by show 2 * 0 + _ ≤ _; exact Nat.le_of_eq rfl) (hb hby at_102) (by decide) (by decide) (by decide) (by decide)
      have x34 := own_ext_trans x14 q34
      have A35 := A14.ext q34
      have N34 := Fr.app N14 (Fr.nil n0)
      refine own_go st34 ?_
      show own_G p e below _ T34 (mkF m 105 #[.val (.int i0), .val (.int i1), .val (.int ((108 : Int32) + (((Jvm.Free.XT.ushr (Jvm.Free.XT.ushr i1 (1 : Int32)) (4 : Int32)) &&& (7 : Int32)) - (3 : Int32)))), .val (.ref a4), .val (.int (Jvm.Free.XT.ushr i1 (1 : Int32))), .val (.int (6 : Int32)), .val (.int (((Jvm.Free.XT.ushr (Jvm.Free.XT.ushr i1 (1 : Int32)) (4 : Int32)) &&& (7 : Int32)) - (3 : Int32)))] [(own_of a_VALUES a_BIND a_UNBIND a_SEARCH a_MODIFY a_ADD a_DELETE a_MODIFY_DN a_COMPARE a_ABANDON a_EXTENDED cl_VALUES ((108 : Int32) + (((Jvm.Free.XT.ushr (Jvm.Free.XT.ushr i1 (1 : Int32)) (4 : Int32)) &&& (7 : Int32)) - (3 : Int32))))])
      refine own_go (fun t k => XS.astoreN X34.here hx rfl (hb hby at_105) rfl (own_of_ref a_VALUES a_BIND a_UNBIND a_SEARCH a_MODIFY a_ADD a_DELETE a_MODIFY_DN a_COMPARE a_ABANDON a_EXTENDED cl_VALUES ((108 : Int32) + (((Jvm.Free.XT.ushr (Jvm.Free.XT.ushr i1 (1 : Int32)) (4 : Int32)) &&& (7 : Int32)) - (3 : Int32)))) (l' := #[.val (.int i0), .val (.int i1), .val (.int ((108 : Int32) + (((Jvm.Free.XT.ushr (Jvm.Free.XT.ushr i1 (1 : Int32)) (4 : Int32)) &&& (7 : Int32)) - (3 : Int32)))), .val (own_of a_VALUES a_BIND a_UNBIND a_SEARCH a_MODIFY a_ADD a_DELETE a_MODIFY_DN a_COMPARE a_ABANDON a_EXTENDED cl_VALUES ((108 : Int32) + (((Jvm.Free.XT.ushr (Jvm.Free.XT.ushr i1 (1 : Int32)) (4 : Int32)) &&& (7 : Int32)) - (3 : Int32)))), .val (.int (Jvm.Free.XT.ushr i1 (1 : Int32))), .val (.int (6 : Int32)), .val (.int (((Jvm.Free.XT.ushr (Jvm.Free.XT.ushr i1 (1 : Int32)) (4 : Int32)) &&& (7 : Int32)) - (3 : Int32)))]) (XS.store1 (o := .val (.ref a4)) rfl (Or.inr ⟨_, rfl, rfl⟩) (own_cat (own_of_ref a_VALUES a_BIND a_UNBIND a_SEARCH a_MODIFY a_ADD a_DELETE a_MODIFY_DN a_COMPARE a_ABANDON a_EXTENDED cl_VALUES ((108 : Int32) + (((Jvm.Free.XT.ushr (Jvm.Free.XT.ushr i1 (1 : Int32)) (4 : Int32)) &&& (7 : Int32)) - (3 : Int32)))))) k) ?_
      show own_G p e below _ T34 (mkF m 106 #[.val (.int i0), .val (.int i1), .val (.int ((108 : Int32) + (((Jvm.Free.XT.ushr (Jvm.Free.XT.ushr i1 (1 : Int32)) (4 : Int32)) &&& (7 : Int32)) - (3 : Int32)))), .val (own_of a_VALUES a_BIND a_UNBIND a_SEARCH a_MODIFY a_ADD a_DELETE a_MODIFY_DN a_COMPARE a_ABANDON a_EXTENDED cl_VALUES ((108 : Int32) + (((Jvm.Free.XT.ushr (Jvm.Free.XT.ushr i1 (1 : Int32)) (4 : Int32)) &&& (7 : Int32)) - (3 : Int32)))), .val (.int (Jvm.Free.XT.ushr i1 (1 : Int32))), .val (.int (6 : Int32)), .val (.int (((Jvm.Free.XT.ushr (Jvm.Free.XT.ushr i1 (1 : Int32)) (4 : Int32)) &&& (7 : Int32)) - (3 : Int32)))] [])
      refine own_go (fun t k => XS.aloadN X34.here hx rfl (hb hby at_106) rfl (own_of_ref a_VALUES a_BIND a_UNBIND a_SEARCH a_MODIFY a_ADD a_DELETE a_MODIFY_DN a_COMPARE a_ABANDON a_EXTENDED cl_VALUES ((108 : Int32) + (((Jvm.Free.XT.ushr (Jvm.Free.XT.ushr i1 (1 : Int32)) (4 : Int32)) &&& (7 : Int32)) - (3 : Int32)))) k) ?_
      show own_G p e below _ T34 (mkF m 107 #[.val (.int i0), .val (.int i1), .val (.int ((108 : Int32) + (((Jvm.Free.XT.ushr (Jvm.Free.XT.ushr i1 (1 : Int32)) (4 : Int32)) &&& (7 : Int32)) - (3 : Int32)))), .val (own_of a_VALUES a_BIND a_UNBIND a_SEARCH a_MODIFY a_ADD a_DELETE a_MODIFY_DN a_COMPARE a_ABANDON a_EXTENDED cl_VALUES ((108 : Int32) + (((Jvm.Free.XT.ushr (Jvm.Free.XT.ushr i1 (1 : Int32)) (4 : Int32)) &&& (7 : Int32)) - (3 : Int32)))), .val (.int (Jvm.Free.XT.ushr i1 (1 : Int32))), .val (.int (6 : Int32)), .val (.int (((Jvm.Free.XT.ushr (Jvm.Free.XT.ushr i1 (1 : Int32)) (4 : Int32)) &&& (7 : Int32)) - (3 : Int32)))] [(own_of a_VALUES a_BIND a_UNBIND a_SEARCH a_MODIFY a_ADD a_DELETE a_MODIFY_DN a_COMPARE a_ABANDON a_EXTENDED cl_VALUES ((108 : Int32) + (((Jvm.Free.XT.ushr (Jvm.Free.XT.ushr i1 (1 : Int32)) (4 : Int32)) &&& (7 : Int32)) - (3 : Int32))))])
      refine own_go (fun t k => XS.iloadN X34.here hx rfl (hb hby at_107) rfl k) ?_
      show own_G p e below _ T34 (mkF m 108 #[.val (.int i0), .val (.int i1), .val (.int ((108 : Int32) + (((Jvm.Free.XT.ushr (Jvm.Free.XT.ushr i1 (1 : Int32)) (4 : Int32)) &&& (7 : Int32)) - (3 : Int32)))), .val (own_of a_VALUES a_BIND a_UNBIND a_SEARCH a_MODIFY a_ADD a_DELETE a_MODIFY_DN a_COMPARE a_ABANDON a_EXTENDED cl_VALUES ((108 : Int32) + (((Jvm.Free.XT.ushr (Jvm.Free.XT.ushr i1 (1 : Int32)) (4 : Int32)) &&& (7 : Int32)) - (3 : Int32)))), .val (.int (Jvm.Free.XT.ushr i1 (1 : Int32))), .val (.int (6 : Int32)), .val (.int (((Jvm.Free.XT.ushr (Jvm.Free.XT.ushr i1 (1 : Int32)) (4 : Int32)) &&& (7 : Int32)) - (3 : Int32)))] [(.int ((108 : Int32) + (((Jvm.Free.XT.ushr (Jvm.Free.XT.ushr i1 (1 : Int32)) (4 : Int32)) &&& (7 : Int32)) - (3 : Int32)))), (own_of a_VALUES a_BIND a_UNBIND a_SEARCH a_MODIFY a_ADD a_DELETE a_MODIFY_DN a_COMPARE a_ABANDON a_EXTENDED cl_VALUES ((108 : Int32) + (((Jvm.Free.XT.ushr (Jvm.Free.XT.ushr i1 (1 : Int32)) (4 : Int32)) &&& (7 : Int32)) - (3 : Int32))))])
      obtain ⟨T36, L36, v36, X36, ⟨rfl, rfl, q36⟩, st36⟩ := own_callS X34 hx hZ (y := (⟨"com/example/canonry/canonry/OperationOfRequestTagPinLaw", "expected", "(I)Lcom/example/canonry/canonry/Operation;"⟩ : MethodName)) hown (hw _ (List.mem_of_getElem? (i := 32) rfl)) (hw _ (List.mem_of_getElem? (i := 33) rfl)) (hw _ (List.mem_of_getElem? (i := 34) rfl)) (hw _ (List.mem_of_getElem? (i := 35) rfl)) (by decide) (c_exp l Z a0 hw a_VALUES a_BIND a_UNBIND a_SEARCH a_MODIFY a_ADD a_DELETE a_MODIFY_DN a_COMPARE a_ABANDON a_EXTENDED cl_VALUES ((108 : Int32) + (((Jvm.Free.XT.ushr (Jvm.Free.XT.ushr i1 (1 : Int32)) (4 : Int32)) &&& (7 : Int32)) - (3 : Int32))) T34.heap (own_B_ext x34 B) ) rfl (argsL := [(.int ((108 : Int32) + (((Jvm.Free.XT.ushr (Jvm.Free.XT.ushr i1 (1 : Int32)) (4 : Int32)) &&& (7 : Int32)) - (3 : Int32))))]) (rest := [(own_of a_VALUES a_BIND a_UNBIND a_SEARCH a_MODIFY a_ADD a_DELETE a_MODIFY_DN a_COMPARE a_ABANDON a_EXTENDED cl_VALUES ((108 : Int32) + (((Jvm.Free.XT.ushr (Jvm.Free.XT.ushr i1 (1 : Int32)) (4 : Int32)) &&& (7 : Int32)) - (3 : Int32))))]) (g := (mkF m 108 #[.val (.int i0), .val (.int i1), .val (.int ((108 : Int32) + (((Jvm.Free.XT.ushr (Jvm.Free.XT.ushr i1 (1 : Int32)) (4 : Int32)) &&& (7 : Int32)) - (3 : Int32)))), .val (own_of a_VALUES a_BIND a_UNBIND a_SEARCH a_MODIFY a_ADD a_DELETE a_MODIFY_DN a_COMPARE a_ABANDON a_EXTENDED cl_VALUES ((108 : Int32) + (((Jvm.Free.XT.ushr (Jvm.Free.XT.ushr i1 (1 : Int32)) (4 : Int32)) &&& (7 : Int32)) - (3 : Int32)))), .val (.int (Jvm.Free.XT.ushr i1 (1 : Int32))), .val (.int (6 : Int32)), .val (.int (((Jvm.Free.XT.ushr (Jvm.Free.XT.ushr i1 (1 : Int32)) (4 : Int32)) &&& (7 : Int32)) - (3 : Int32)))] [(.int ((108 : Int32) + (((Jvm.Free.XT.ushr (Jvm.Free.XT.ushr i1 (1 : Int32)) (4 : Int32)) &&& (7 : Int32)) - (3 : Int32)))), (own_of a_VALUES a_BIND a_UNBIND a_SEARCH a_MODIFY a_ADD a_DELETE a_MODIFY_DN a_COMPARE a_ABANDON a_EXTENDED cl_VALUES ((108 : Int32) + (((Jvm.Free.XT.ushr (Jvm.Free.XT.ushr i1 (1 : Int32)) (4 : Int32)) &&& (7 : Int32)) - (3 : Int32))))])) rfl (by rw [hml]; rfl) (ps := [.int]) (r := (some (.object "com/example/canonry/canonry/Operation"))) (by decide +kernel) rfl rfl (W := 1) (by show 2 * 0 + _ ≤ _; simp [own_cat (own_of_ref a_VALUES a_BIND a_UNBIND a_SEARCH a_MODIFY a_ADD a_DELETE a_MODIFY_DN a_COMPARE a_ABANDON a_EXTENDED cl_VALUES ((108 : Int32) + (((Jvm.Free.XT.ushr (Jvm.Free.XT.ushr i1 (1 : Int32)) (4 : Int32)) &&& (7 : Int32)) - (3 : Int32))))]) (hb hby at_108) (by decide) (by decide) (by decide) (by decide)
      have N36 := Fr.app N34 (Fr.nil n0)
      refine own_go st36 ?_
      show own_G p e below _ T36 (mkF m 111 #[.val (.int i0), .val (.int i1), .val (.int ((108 : Int32) + (((Jvm.Free.XT.ushr (Jvm.Free.XT.ushr i1 (1 : Int32)) (4 : Int32)) &&& (7 : Int32)) - (3 : Int32)))), .val (own_of a_VALUES a_BIND a_UNBIND a_SEARCH a_MODIFY a_ADD a_DELETE a_MODIFY_DN a_COMPARE a_ABANDON a_EXTENDED cl_VALUES ((108 : Int32) + (((Jvm.Free.XT.ushr (Jvm.Free.XT.ushr i1 (1 : Int32)) (4 : Int32)) &&& (7 : Int32)) - (3 : Int32)))), .val (.int (Jvm.Free.XT.ushr i1 (1 : Int32))), .val (.int (6 : Int32)), .val (.int (((Jvm.Free.XT.ushr (Jvm.Free.XT.ushr i1 (1 : Int32)) (4 : Int32)) &&& (7 : Int32)) - (3 : Int32)))] [(own_exp a_VALUES a_BIND a_UNBIND a_SEARCH a_MODIFY a_ADD a_DELETE a_MODIFY_DN a_COMPARE a_ABANDON a_EXTENDED cl_VALUES ((108 : Int32) + (((Jvm.Free.XT.ushr (Jvm.Free.XT.ushr i1 (1 : Int32)) (4 : Int32)) &&& (7 : Int32)) - (3 : Int32)))), (own_of a_VALUES a_BIND a_UNBIND a_SEARCH a_MODIFY a_ADD a_DELETE a_MODIFY_DN a_COMPARE a_ABANDON a_EXTENDED cl_VALUES ((108 : Int32) + (((Jvm.Free.XT.ushr (Jvm.Free.XT.ushr i1 (1 : Int32)) (4 : Int32)) &&& (7 : Int32)) - (3 : Int32))))])
      refine own_go (fun t k => Jvm.Free.XT.acmpNo X36.here hx rfl (hb hby at_111) rfl (own_of_ref a_VALUES a_BIND a_UNBIND a_SEARCH a_MODIFY a_ADD a_DELETE a_MODIFY_DN a_COMPARE a_ABANDON a_EXTENDED cl_VALUES ((108 : Int32) + (((Jvm.Free.XT.ushr (Jvm.Free.XT.ushr i1 (1 : Int32)) (4 : Int32)) &&& (7 : Int32)) - (3 : Int32)))) (own_exp_ref a_VALUES a_BIND a_UNBIND a_SEARCH a_MODIFY a_ADD a_DELETE a_MODIFY_DN a_COMPARE a_ABANDON a_EXTENDED cl_VALUES ((108 : Int32) + (((Jvm.Free.XT.ushr (Jvm.Free.XT.ushr i1 (1 : Int32)) (4 : Int32)) &&& (7 : Int32)) - (3 : Int32)))) (own_acVF (own_same a_VALUES a_BIND a_UNBIND a_SEARCH a_MODIFY a_ADD a_DELETE a_MODIFY_DN a_COMPARE a_ABANDON a_EXTENDED cl_VALUES ((108 : Int32) + (((Jvm.Free.XT.ushr (Jvm.Free.XT.ushr i1 (1 : Int32)) (4 : Int32)) &&& (7 : Int32)) - (3 : Int32))))) k) ?_
      show own_G p e below _ T36 (mkF m 114 #[.val (.int i0), .val (.int i1), .val (.int ((108 : Int32) + (((Jvm.Free.XT.ushr (Jvm.Free.XT.ushr i1 (1 : Int32)) (4 : Int32)) &&& (7 : Int32)) - (3 : Int32)))), .val (own_of a_VALUES a_BIND a_UNBIND a_SEARCH a_MODIFY a_ADD a_DELETE a_MODIFY_DN a_COMPARE a_ABANDON a_EXTENDED cl_VALUES ((108 : Int32) + (((Jvm.Free.XT.ushr (Jvm.Free.XT.ushr i1 (1 : Int32)) (4 : Int32)) &&& (7 : Int32)) - (3 : Int32)))), .val (.int (Jvm.Free.XT.ushr i1 (1 : Int32))), .val (.int (6 : Int32)), .val (.int (((Jvm.Free.XT.ushr (Jvm.Free.XT.ushr i1 (1 : Int32)) (4 : Int32)) &&& (7 : Int32)) - (3 : Int32)))] [])
      refine own_go (fun t k => XS.iconst X36.here hx rfl (hb hby at_114) k) ?_
      show own_G p e below _ T36 (mkF m 115 #[.val (.int i0), .val (.int i1), .val (.int ((108 : Int32) + (((Jvm.Free.XT.ushr (Jvm.Free.XT.ushr i1 (1 : Int32)) (4 : Int32)) &&& (7 : Int32)) - (3 : Int32)))), .val (own_of a_VALUES a_BIND a_UNBIND a_SEARCH a_MODIFY a_ADD a_DELETE a_MODIFY_DN a_COMPARE a_ABANDON a_EXTENDED cl_VALUES ((108 : Int32) + (((Jvm.Free.XT.ushr (Jvm.Free.XT.ushr i1 (1 : Int32)) (4 : Int32)) &&& (7 : Int32)) - (3 : Int32)))), .val (.int (Jvm.Free.XT.ushr i1 (1 : Int32))), .val (.int (6 : Int32)), .val (.int (((Jvm.Free.XT.ushr (Jvm.Free.XT.ushr i1 (1 : Int32)) (4 : Int32)) &&& (7 : Int32)) - (3 : Int32)))] [(.int (1 : Int32))])
      refine own_go (fun t k => XS.goto X36.here hx rfl (pc0 := 115) (pc' := 119) rfl (hb hby at_115) (by decide) (by decide) k) ?_
      show own_G p e below _ T36 (mkF m 119 #[.val (.int i0), .val (.int i1), .val (.int ((108 : Int32) + (((Jvm.Free.XT.ushr (Jvm.Free.XT.ushr i1 (1 : Int32)) (4 : Int32)) &&& (7 : Int32)) - (3 : Int32)))), .val (own_of a_VALUES a_BIND a_UNBIND a_SEARCH a_MODIFY a_ADD a_DELETE a_MODIFY_DN a_COMPARE a_ABANDON a_EXTENDED cl_VALUES ((108 : Int32) + (((Jvm.Free.XT.ushr (Jvm.Free.XT.ushr i1 (1 : Int32)) (4 : Int32)) &&& (7 : Int32)) - (3 : Int32)))), .val (.int (Jvm.Free.XT.ushr i1 (1 : Int32))), .val (.int (6 : Int32)), .val (.int (((Jvm.Free.XT.ushr (Jvm.Free.XT.ushr i1 (1 : Int32)) (4 : Int32)) &&& (7 : Int32)) - (3 : Int32)))] [(.int (1 : Int32))])
      exact own_retN X36 hx hlk hret (by simp) (hb hby at_119) (by decide) (by decide) ⟨rfl, N36⟩
    · rw [hk15]
      show own_G p e below _ T14 (mkF m 88 #[.val (.int i0), .val (.int i1), .unset, .val (.ref a4), .val (.int (Jvm.Free.XT.ushr i1 (1 : Int32))), .val (.int (7 : Int32)), .val (.int (((Jvm.Free.XT.ushr (Jvm.Free.XT.ushr i1 (1 : Int32)) (4 : Int32)) &&& (7 : Int32)) - (3 : Int32)))] [])
      refine own_go (fun t k => XS.aloadN X14.here hx rfl (hb hby at_88) rfl rfl k) ?_
      show own_G p e below _ T14 (mkF m 89 #[.val (.int i0), .val (.int i1), .unset, .val (.ref a4), .val (.int (Jvm.Free.XT.ushr i1 (1 : Int32))), .val (.int (7 : Int32)), .val (.int (((Jvm.Free.XT.ushr (Jvm.Free.XT.ushr i1 (1 : Int32)) (4 : Int32)) &&& (7 : Int32)) - (3 : Int32)))] [(.ref a4)])
      refine own_go (fun t k => XS.iload X14.here hx rfl (hb hby at_89) rfl k) ?_
      show own_G p e below _ T14 (mkF m 91 #[.val (.int i0), .val (.int i1), .unset, .val (.ref a4), .val (.int (Jvm.Free.XT.ushr i1 (1 : Int32))), .val (.int (7 : Int32)), .val (.int (((Jvm.Free.XT.ushr (Jvm.Free.XT.ushr i1 (1 : Int32)) (4 : Int32)) &&& (7 : Int32)) - (3 : Int32)))] [(.int (7 : Int32)), (.ref a4)])
      refine own_go (X14.iaload hx (j := (7 : Int32)) (v := (.int (110 : Int32))) (own_cellAt e14 A14) (State.isArrayOf_alike hZ.alike A14.2.1) A14.2.2 (own_in (n := 10) rfl (by decide)) rfl (g := (mkF m 91 #[.val (.int i0), .val (.int i1), .unset, .val (.ref a4), .val (.int (Jvm.Free.XT.ushr i1 (1 : Int32))), .val (.int (7 : Int32)), .val (.int (((Jvm.Free.XT.ushr (Jvm.Free.XT.ushr i1 (1 : Int32)) (4 : Int32)) &&& (7 : Int32)) - (3 : Int32)))] [(.int (7 : Int32)), (.ref a4)])) rfl rfl (hb hby at_91)) ?_
      show own_G p e below _ T14 (mkF m 92 #[.val (.int i0), .val (.int i1), .unset, .val (.ref a4), .val (.int (Jvm.Free.XT.ushr i1 (1 : Int32))), .val (.int (7 : Int32)), .val (.int (((Jvm.Free.XT.ushr (Jvm.Free.XT.ushr i1 (1 : Int32)) (4 : Int32)) &&& (7 : Int32)) - (3 : Int32)))] [(.int (110 : Int32))])
      refine own_go (fun t k => XS.iload X14.here hx rfl (hb hby at_92) rfl k) ?_
      show own_G p e below _ T14 (mkF m 94 #[.val (.int i0), .val (.int i1), .unset, .val (.ref a4), .val (.int (Jvm.Free.XT.ushr i1 (1 : Int32))), .val (.int (7 : Int32)), .val (.int (((Jvm.Free.XT.ushr (Jvm.Free.XT.ushr i1 (1 : Int32)) (4 : Int32)) &&& (7 : Int32)) - (3 : Int32)))] [(.int (((Jvm.Free.XT.ushr (Jvm.Free.XT.ushr i1 (1 : Int32)) (4 : Int32)) &&& (7 : Int32)) - (3 : Int32))), (.int (110 : Int32))])
      refine own_go (fun t k => XS.iadd X14.here hx rfl (hb hby at_94) rfl k) ?_
      show own_G p e below _ T14 (mkF m 95 #[.val (.int i0), .val (.int i1), .unset, .val (.ref a4), .val (.int (Jvm.Free.XT.ushr i1 (1 : Int32))), .val (.int (7 : Int32)), .val (.int (((Jvm.Free.XT.ushr (Jvm.Free.XT.ushr i1 (1 : Int32)) (4 : Int32)) &&& (7 : Int32)) - (3 : Int32)))] [(.int ((110 : Int32) + (((Jvm.Free.XT.ushr (Jvm.Free.XT.ushr i1 (1 : Int32)) (4 : Int32)) &&& (7 : Int32)) - (3 : Int32))))])
      refine own_go (fun t k => XS.istoreN X14.here hx rfl (hb hby at_95) rfl (l' := #[.val (.int i0), .val (.int i1), .val (.int ((110 : Int32) + (((Jvm.Free.XT.ushr (Jvm.Free.XT.ushr i1 (1 : Int32)) (4 : Int32)) &&& (7 : Int32)) - (3 : Int32)))), .val (.ref a4), .val (.int (Jvm.Free.XT.ushr i1 (1 : Int32))), .val (.int (7 : Int32)), .val (.int (((Jvm.Free.XT.ushr (Jvm.Free.XT.ushr i1 (1 : Int32)) (4 : Int32)) &&& (7 : Int32)) - (3 : Int32)))]) rfl k) ?_
      show own_G p e below _ T14 (mkF m 96 #[.val (.int i0), .val (.int i1), .val (.int ((110 : Int32) + (((Jvm.Free.XT.ushr (Jvm.Free.XT.ushr i1 (1 : Int32)) (4 : Int32)) &&& (7 : Int32)) - (3 : Int32)))), .val (.ref a4), .val (.int (Jvm.Free.XT.ushr i1 (1 : Int32))), .val (.int (7 : Int32)), .val (.int (((Jvm.Free.XT.ushr (Jvm.Free.XT.ushr i1 (1 : Int32)) (4 : Int32)) &&& (7 : Int32)) - (3 : Int32)))] [])
      refine own_go (fun t k => XS.goto X14.here hx rfl (pc0 := 96) (pc' := 101) rfl (hb hby at_96) (by decide) (by decide) k) ?_
      show own_G p e below _ T14 (mkF m 101 #[.val (.int i0), .val (.int i1), .val (.int ((110 : Int32) + (((Jvm.Free.XT.ushr (Jvm.Free.XT.ushr i1 (1 : Int32)) (4 : Int32)) &&& (7 : Int32)) - (3 : Int32)))), .val (.ref a4), .val (.int (Jvm.Free.XT.ushr i1 (1 : Int32))), .val (.int (7 : Int32)), .val (.int (((Jvm.Free.XT.ushr (Jvm.Free.XT.ushr i1 (1 : Int32)) (4 : Int32)) &&& (7 : Int32)) - (3 : Int32)))] [])
      refine own_go (fun t k => XS.iloadN X14.here hx rfl (hb hby at_101) rfl k) ?_
      show own_G p e below _ T14 (mkF m 102 #[.val (.int i0), .val (.int i1), .val (.int ((110 : Int32) + (((Jvm.Free.XT.ushr (Jvm.Free.XT.ushr i1 (1 : Int32)) (4 : Int32)) &&& (7 : Int32)) - (3 : Int32)))), .val (.ref a4), .val (.int (Jvm.Free.XT.ushr i1 (1 : Int32))), .val (.int (7 : Int32)), .val (.int (((Jvm.Free.XT.ushr (Jvm.Free.XT.ushr i1 (1 : Int32)) (4 : Int32)) &&& (7 : Int32)) - (3 : Int32)))] [(.int ((110 : Int32) + (((Jvm.Free.XT.ushr (Jvm.Free.XT.ushr i1 (1 : Int32)) (4 : Int32)) &&& (7 : Int32)) - (3 : Int32))))])
      obtain ⟨T37, L37, v37, X37, ⟨rfl, rfl, q37⟩, st37⟩ := own_callS X14 hx hZ (y := (⟨"com/example/canonry/canonry/Operation", "ofRequestTag", "(I)Lcom/example/canonry/canonry/Operation;"⟩ : MethodName)) hown (hw _ (List.mem_of_getElem? (i := 1) rfl)) (hw _ (List.mem_of_getElem? (i := 2) rfl)) (hw _ (List.mem_of_getElem? (i := 3) rfl)) (hw _ (List.mem_of_getElem? (i := 4) rfl)) (by decide) (c_of l Z a0 hw a_VALUES a_BIND a_UNBIND a_SEARCH a_MODIFY a_ADD a_DELETE a_MODIFY_DN a_COMPARE a_ABANDON a_EXTENDED cl_VALUES ((110 : Int32) + (((Jvm.Free.XT.ushr (Jvm.Free.XT.ushr i1 (1 : Int32)) (4 : Int32)) &&& (7 : Int32)) - (3 : Int32))) h14 (own_B_ext x14 B) ) e14 (argsL := [(.int ((110 : Int32) + (((Jvm.Free.XT.ushr (Jvm.Free.XT.ushr i1 (1 : Int32)) (4 : Int32)) &&& (7 : Int32)) - (3 : Int32))))]) (rest := []) (g := (mkF m 102 #[.val (.int i0), .val (.int i1), .val (.int ((110 : Int32) + (((Jvm.Free.XT.ushr (Jvm.Free.XT.ushr i1 (1 : Int32)) (4 : Int32)) &&& (7 : Int32)) - (3 : Int32)))), .val (.ref a4), .val (.int (Jvm.Free.XT.ushr i1 (1 : Int32))), .val (.int (7 : Int32)), .val (.int (((Jvm.Free.XT.ushr (Jvm.Free.XT.ushr i1 (1 : Int32)) (4 : Int32)) &&& (7 : Int32)) - (3 : Int32)))] [(.int ((110 : Int32) + (((Jvm.Free.XT.ushr (Jvm.Free.XT.ushr i1 (1 : Int32)) (4 : Int32)) &&& (7 : Int32)) - (3 : Int32))))])) rfl (by rw [hml]; rfl) (ps := [.int]) (r := (some (.object "com/example/canonry/canonry/Operation"))) (by decide +kernel) rfl rfl (W := 0) (by show 2 * 0 + _ ≤ _; exact Nat.le_of_eq rfl) (hb hby at_102) (by decide) (by decide) (by decide) (by decide)
      have x37 := own_ext_trans x14 q37
      have A38 := A14.ext q37
      have N37 := Fr.app N14 (Fr.nil n0)
      refine own_go st37 ?_
      show own_G p e below _ T37 (mkF m 105 #[.val (.int i0), .val (.int i1), .val (.int ((110 : Int32) + (((Jvm.Free.XT.ushr (Jvm.Free.XT.ushr i1 (1 : Int32)) (4 : Int32)) &&& (7 : Int32)) - (3 : Int32)))), .val (.ref a4), .val (.int (Jvm.Free.XT.ushr i1 (1 : Int32))), .val (.int (7 : Int32)), .val (.int (((Jvm.Free.XT.ushr (Jvm.Free.XT.ushr i1 (1 : Int32)) (4 : Int32)) &&& (7 : Int32)) - (3 : Int32)))] [(own_of a_VALUES a_BIND a_UNBIND a_SEARCH a_MODIFY a_ADD a_DELETE a_MODIFY_DN a_COMPARE a_ABANDON a_EXTENDED cl_VALUES ((110 : Int32) + (((Jvm.Free.XT.ushr (Jvm.Free.XT.ushr i1 (1 : Int32)) (4 : Int32)) &&& (7 : Int32)) - (3 : Int32))))])
      refine own_go (fun t k => XS.astoreN X37.here hx rfl (hb hby at_105) rfl (own_of_ref a_VALUES a_BIND a_UNBIND a_SEARCH a_MODIFY a_ADD a_DELETE a_MODIFY_DN a_COMPARE a_ABANDON a_EXTENDED cl_VALUES ((110 : Int32) + (((Jvm.Free.XT.ushr (Jvm.Free.XT.ushr i1 (1 : Int32)) (4 : Int32)) &&& (7 : Int32)) - (3 : Int32)))) (l' := #[.val (.int i0), .val (.int i1), .val (.int ((110 : Int32) + (((Jvm.Free.XT.ushr (Jvm.Free.XT.ushr i1 (1 : Int32)) (4 : Int32)) &&& (7 : Int32)) - (3 : Int32)))), .val (own_of a_VALUES a_BIND a_UNBIND a_SEARCH a_MODIFY a_ADD a_DELETE a_MODIFY_DN a_COMPARE a_ABANDON a_EXTENDED cl_VALUES ((110 : Int32) + (((Jvm.Free.XT.ushr (Jvm.Free.XT.ushr i1 (1 : Int32)) (4 : Int32)) &&& (7 : Int32)) - (3 : Int32)))), .val (.int (Jvm.Free.XT.ushr i1 (1 : Int32))), .val (.int (7 : Int32)), .val (.int (((Jvm.Free.XT.ushr (Jvm.Free.XT.ushr i1 (1 : Int32)) (4 : Int32)) &&& (7 : Int32)) - (3 : Int32)))]) (XS.store1 (o := .val (.ref a4)) rfl (Or.inr ⟨_, rfl, rfl⟩) (own_cat (own_of_ref a_VALUES a_BIND a_UNBIND a_SEARCH a_MODIFY a_ADD a_DELETE a_MODIFY_DN a_COMPARE a_ABANDON a_EXTENDED cl_VALUES ((110 : Int32) + (((Jvm.Free.XT.ushr (Jvm.Free.XT.ushr i1 (1 : Int32)) (4 : Int32)) &&& (7 : Int32)) - (3 : Int32)))))) k) ?_
      show own_G p e below _ T37 (mkF m 106 #[.val (.int i0), .val (.int i1), .val (.int ((110 : Int32) + (((Jvm.Free.XT.ushr (Jvm.Free.XT.ushr i1 (1 : Int32)) (4 : Int32)) &&& (7 : Int32)) - (3 : Int32)))), .val (own_of a_VALUES a_BIND a_UNBIND a_SEARCH a_MODIFY a_ADD a_DELETE a_MODIFY_DN a_COMPARE a_ABANDON a_EXTENDED cl_VALUES ((110 : Int32) + (((Jvm.Free.XT.ushr (Jvm.Free.XT.ushr i1 (1 : Int32)) (4 : Int32)) &&& (7 : Int32)) - (3 : Int32)))), .val (.int (Jvm.Free.XT.ushr i1 (1 : Int32))), .val (.int (7 : Int32)), .val (.int (((Jvm.Free.XT.ushr (Jvm.Free.XT.ushr i1 (1 : Int32)) (4 : Int32)) &&& (7 : Int32)) - (3 : Int32)))] [])
      refine own_go (fun t k => XS.aloadN X37.here hx rfl (hb hby at_106) rfl (own_of_ref a_VALUES a_BIND a_UNBIND a_SEARCH a_MODIFY a_ADD a_DELETE a_MODIFY_DN a_COMPARE a_ABANDON a_EXTENDED cl_VALUES ((110 : Int32) + (((Jvm.Free.XT.ushr (Jvm.Free.XT.ushr i1 (1 : Int32)) (4 : Int32)) &&& (7 : Int32)) - (3 : Int32)))) k) ?_
      show own_G p e below _ T37 (mkF m 107 #[.val (.int i0), .val (.int i1), .val (.int ((110 : Int32) + (((Jvm.Free.XT.ushr (Jvm.Free.XT.ushr i1 (1 : Int32)) (4 : Int32)) &&& (7 : Int32)) - (3 : Int32)))), .val (own_of a_VALUES a_BIND a_UNBIND a_SEARCH a_MODIFY a_ADD a_DELETE a_MODIFY_DN a_COMPARE a_ABANDON a_EXTENDED cl_VALUES ((110 : Int32) + (((Jvm.Free.XT.ushr (Jvm.Free.XT.ushr i1 (1 : Int32)) (4 : Int32)) &&& (7 : Int32)) - (3 : Int32)))), .val (.int (Jvm.Free.XT.ushr i1 (1 : Int32))), .val (.int (7 : Int32)), .val (.int (((Jvm.Free.XT.ushr (Jvm.Free.XT.ushr i1 (1 : Int32)) (4 : Int32)) &&& (7 : Int32)) - (3 : Int32)))] [(own_of a_VALUES a_BIND a_UNBIND a_SEARCH a_MODIFY a_ADD a_DELETE a_MODIFY_DN a_COMPARE a_ABANDON a_EXTENDED cl_VALUES ((110 : Int32) + (((Jvm.Free.XT.ushr (Jvm.Free.XT.ushr i1 (1 : Int32)) (4 : Int32)) &&& (7 : Int32)) - (3 : Int32))))])
      refine own_go (fun t k => XS.iloadN X37.here hx rfl (hb hby at_107) rfl k) ?_
      show own_G p e below _ T37 (mkF m 108 #[.val (.int i0), .val (.int i1), .val (.int ((110 : Int32) + (((Jvm.Free.XT.ushr (Jvm.Free.XT.ushr i1 (1 : Int32)) (4 : Int32)) &&& (7 : Int32)) - (3 : Int32)))), .val (own_of a_VALUES a_BIND a_UNBIND a_SEARCH a_MODIFY a_ADD a_DELETE a_MODIFY_DN a_COMPARE a_ABANDON a_EXTENDED cl_VALUES ((110 : Int32) + (((Jvm.Free.XT.ushr (Jvm.Free.XT.ushr i1 (1 : Int32)) (4 : Int32)) &&& (7 : Int32)) - (3 : Int32)))), .val (.int (Jvm.Free.XT.ushr i1 (1 : Int32))), .val (.int (7 : Int32)), .val (.int (((Jvm.Free.XT.ushr (Jvm.Free.XT.ushr i1 (1 : Int32)) (4 : Int32)) &&& (7 : Int32)) - (3 : Int32)))] [(.int ((110 : Int32) + (((Jvm.Free.XT.ushr (Jvm.Free.XT.ushr i1 (1 : Int32)) (4 : Int32)) &&& (7 : Int32)) - (3 : Int32)))), (own_of a_VALUES a_BIND a_UNBIND a_SEARCH a_MODIFY a_ADD a_DELETE a_MODIFY_DN a_COMPARE a_ABANDON a_EXTENDED cl_VALUES ((110 : Int32) + (((Jvm.Free.XT.ushr (Jvm.Free.XT.ushr i1 (1 : Int32)) (4 : Int32)) &&& (7 : Int32)) - (3 : Int32))))])
      obtain ⟨T39, L39, v39, X39, ⟨rfl, rfl, q39⟩, st39⟩ := own_callS X37 hx hZ (y := (⟨"com/example/canonry/canonry/OperationOfRequestTagPinLaw", "expected", "(I)Lcom/example/canonry/canonry/Operation;"⟩ : MethodName)) hown (hw _ (List.mem_of_getElem? (i := 32) rfl)) (hw _ (List.mem_of_getElem? (i := 33) rfl)) (hw _ (List.mem_of_getElem? (i := 34) rfl)) (hw _ (List.mem_of_getElem? (i := 35) rfl)) (by decide) (c_exp l Z a0 hw a_VALUES a_BIND a_UNBIND a_SEARCH a_MODIFY a_ADD a_DELETE a_MODIFY_DN a_COMPARE a_ABANDON a_EXTENDED cl_VALUES ((110 : Int32) + (((Jvm.Free.XT.ushr (Jvm.Free.XT.ushr i1 (1 : Int32)) (4 : Int32)) &&& (7 : Int32)) - (3 : Int32))) T37.heap (own_B_ext x37 B) ) rfl (argsL := [(.int ((110 : Int32) + (((Jvm.Free.XT.ushr (Jvm.Free.XT.ushr i1 (1 : Int32)) (4 : Int32)) &&& (7 : Int32)) - (3 : Int32))))]) (rest := [(own_of a_VALUES a_BIND a_UNBIND a_SEARCH a_MODIFY a_ADD a_DELETE a_MODIFY_DN a_COMPARE a_ABANDON a_EXTENDED cl_VALUES ((110 : Int32) + (((Jvm.Free.XT.ushr (Jvm.Free.XT.ushr i1 (1 : Int32)) (4 : Int32)) &&& (7 : Int32)) - (3 : Int32))))]) (g := (mkF m 108 #[.val (.int i0), .val (.int i1), .val (.int ((110 : Int32) + (((Jvm.Free.XT.ushr (Jvm.Free.XT.ushr i1 (1 : Int32)) (4 : Int32)) &&& (7 : Int32)) - (3 : Int32)))), .val (own_of a_VALUES a_BIND a_UNBIND a_SEARCH a_MODIFY a_ADD a_DELETE a_MODIFY_DN a_COMPARE a_ABANDON a_EXTENDED cl_VALUES ((110 : Int32) + (((Jvm.Free.XT.ushr (Jvm.Free.XT.ushr i1 (1 : Int32)) (4 : Int32)) &&& (7 : Int32)) - (3 : Int32)))), .val (.int (Jvm.Free.XT.ushr i1 (1 : Int32))), .val (.int (7 : Int32)), .val (.int (((Jvm.Free.XT.ushr (Jvm.Free.XT.ushr i1 (1 : Int32)) (4 : Int32)) &&& (7 : Int32)) - (3 : Int32)))] [(.int ((110 : Int32) + (((Jvm.Free.XT.ushr (Jvm.Free.XT.ushr i1 (1 : Int32)) (4 : Int32)) &&& (7 : Int32)) - (3 : Int32)))), (own_of a_VALUES a_BIND a_UNBIND a_SEARCH a_MODIFY a_ADD a_DELETE a_MODIFY_DN a_COMPARE a_ABANDON a_EXTENDED cl_VALUES ((110 : Int32) + (((Jvm.Free.XT.ushr (Jvm.Free.XT.ushr i1 (1 : Int32)) (4 : Int32)) &&& (7 : Int32)) - (3 : Int32))))])) rfl (by rw [hml]; rfl) (ps := [.int]) (r := (some (.object "com/example/canonry/canonry/Operation"))) (by decide +kernel) rfl rfl (W := 1) (by show 2 * 0 + _ ≤ _; simp [own_cat (own_of_ref a_VALUES a_BIND a_UNBIND a_SEARCH a_MODIFY a_ADD a_DELETE a_MODIFY_DN a_COMPARE a_ABANDON a_EXTENDED cl_VALUES ((110 : Int32) + (((Jvm.Free.XT.ushr (Jvm.Free.XT.ushr i1 (1 : Int32)) (4 : Int32)) &&& (7 : Int32)) - (3 : Int32))))]) (hb hby at_108) (by decide) (by decide) (by decide) (by decide)
      have N39 := Fr.app N37 (Fr.nil n0)
      refine own_go st39 ?_
      show own_G p e below _ T39 (mkF m 111 #[.val (.int i0), .val (.int i1), .val (.int ((110 : Int32) + (((Jvm.Free.XT.ushr (Jvm.Free.XT.ushr i1 (1 : Int32)) (4 : Int32)) &&& (7 : Int32)) - (3 : Int32)))), .val (own_of a_VALUES a_BIND a_UNBIND a_SEARCH a_MODIFY a_ADD a_DELETE a_MODIFY_DN a_COMPARE a_ABANDON a_EXTENDED cl_VALUES ((110 : Int32) + (((Jvm.Free.XT.ushr (Jvm.Free.XT.ushr i1 (1 : Int32)) (4 : Int32)) &&& (7 : Int32)) - (3 : Int32)))), .val (.int (Jvm.Free.XT.ushr i1 (1 : Int32))), .val (.int (7 : Int32)), .val (.int (((Jvm.Free.XT.ushr (Jvm.Free.XT.ushr i1 (1 : Int32)) (4 : Int32)) &&& (7 : Int32)) - (3 : Int32)))] [(own_exp a_VALUES a_BIND a_UNBIND a_SEARCH a_MODIFY a_ADD a_DELETE a_MODIFY_DN a_COMPARE a_ABANDON a_EXTENDED cl_VALUES ((110 : Int32) + (((Jvm.Free.XT.ushr (Jvm.Free.XT.ushr i1 (1 : Int32)) (4 : Int32)) &&& (7 : Int32)) - (3 : Int32)))), (own_of a_VALUES a_BIND a_UNBIND a_SEARCH a_MODIFY a_ADD a_DELETE a_MODIFY_DN a_COMPARE a_ABANDON a_EXTENDED cl_VALUES ((110 : Int32) + (((Jvm.Free.XT.ushr (Jvm.Free.XT.ushr i1 (1 : Int32)) (4 : Int32)) &&& (7 : Int32)) - (3 : Int32))))])
      refine own_go (fun t k => Jvm.Free.XT.acmpNo X39.here hx rfl (hb hby at_111) rfl (own_of_ref a_VALUES a_BIND a_UNBIND a_SEARCH a_MODIFY a_ADD a_DELETE a_MODIFY_DN a_COMPARE a_ABANDON a_EXTENDED cl_VALUES ((110 : Int32) + (((Jvm.Free.XT.ushr (Jvm.Free.XT.ushr i1 (1 : Int32)) (4 : Int32)) &&& (7 : Int32)) - (3 : Int32)))) (own_exp_ref a_VALUES a_BIND a_UNBIND a_SEARCH a_MODIFY a_ADD a_DELETE a_MODIFY_DN a_COMPARE a_ABANDON a_EXTENDED cl_VALUES ((110 : Int32) + (((Jvm.Free.XT.ushr (Jvm.Free.XT.ushr i1 (1 : Int32)) (4 : Int32)) &&& (7 : Int32)) - (3 : Int32)))) (own_acVF (own_same a_VALUES a_BIND a_UNBIND a_SEARCH a_MODIFY a_ADD a_DELETE a_MODIFY_DN a_COMPARE a_ABANDON a_EXTENDED cl_VALUES ((110 : Int32) + (((Jvm.Free.XT.ushr (Jvm.Free.XT.ushr i1 (1 : Int32)) (4 : Int32)) &&& (7 : Int32)) - (3 : Int32))))) k) ?_
      show own_G p e below _ T39 (mkF m 114 #[.val (.int i0), .val (.int i1), .val (.int ((110 : Int32) + (((Jvm.Free.XT.ushr (Jvm.Free.XT.ushr i1 (1 : Int32)) (4 : Int32)) &&& (7 : Int32)) - (3 : Int32)))), .val (own_of a_VALUES a_BIND a_UNBIND a_SEARCH a_MODIFY a_ADD a_DELETE a_MODIFY_DN a_COMPARE a_ABANDON a_EXTENDED cl_VALUES ((110 : Int32) + (((Jvm.Free.XT.ushr (Jvm.Free.XT.ushr i1 (1 : Int32)) (4 : Int32)) &&& (7 : Int32)) - (3 : Int32)))), .val (.int (Jvm.Free.XT.ushr i1 (1 : Int32))), .val (.int (7 : Int32)), .val (.int (((Jvm.Free.XT.ushr (Jvm.Free.XT.ushr i1 (1 : Int32)) (4 : Int32)) &&& (7 : Int32)) - (3 : Int32)))] [])
      refine own_go (fun t k => XS.iconst X39.here hx rfl (hb hby at_114) k) ?_
      show own_G p e below _ T39 (mkF m 115 #[.val (.int i0), .val (.int i1), .val (.int ((110 : Int32) + (((Jvm.Free.XT.ushr (Jvm.Free.XT.ushr i1 (1 : Int32)) (4 : Int32)) &&& (7 : Int32)) - (3 : Int32)))), .val (own_of a_VALUES a_BIND a_UNBIND a_SEARCH a_MODIFY a_ADD a_DELETE a_MODIFY_DN a_COMPARE a_ABANDON a_EXTENDED cl_VALUES ((110 : Int32) + (((Jvm.Free.XT.ushr (Jvm.Free.XT.ushr i1 (1 : Int32)) (4 : Int32)) &&& (7 : Int32)) - (3 : Int32)))), .val (.int (Jvm.Free.XT.ushr i1 (1 : Int32))), .val (.int (7 : Int32)), .val (.int (((Jvm.Free.XT.ushr (Jvm.Free.XT.ushr i1 (1 : Int32)) (4 : Int32)) &&& (7 : Int32)) - (3 : Int32)))] [(.int (1 : Int32))])
      refine own_go (fun t k => XS.goto X39.here hx rfl (pc0 := 115) (pc' := 119) rfl (hb hby at_115) (by decide) (by decide) k) ?_
      show own_G p e below _ T39 (mkF m 119 #[.val (.int i0), .val (.int i1), .val (.int ((110 : Int32) + (((Jvm.Free.XT.ushr (Jvm.Free.XT.ushr i1 (1 : Int32)) (4 : Int32)) &&& (7 : Int32)) - (3 : Int32)))), .val (own_of a_VALUES a_BIND a_UNBIND a_SEARCH a_MODIFY a_ADD a_DELETE a_MODIFY_DN a_COMPARE a_ABANDON a_EXTENDED cl_VALUES ((110 : Int32) + (((Jvm.Free.XT.ushr (Jvm.Free.XT.ushr i1 (1 : Int32)) (4 : Int32)) &&& (7 : Int32)) - (3 : Int32)))), .val (.int (Jvm.Free.XT.ushr i1 (1 : Int32))), .val (.int (7 : Int32)), .val (.int (((Jvm.Free.XT.ushr (Jvm.Free.XT.ushr i1 (1 : Int32)) (4 : Int32)) &&& (7 : Int32)) - (3 : Int32)))] [(.int (1 : Int32))])
      exact own_retN X39 hx hlk hret (by simp) (hb hby at_119) (by decide) (by decide) ⟨rfl, N39⟩
    · rw [hk15]
      show own_G p e below _ T14 (mkF m 88 #[.val (.int i0), .val (.int i1), .unset, .val (.ref a4), .val (.int (Jvm.Free.XT.ushr i1 (1 : Int32))), .val (.int (8 : Int32)), .val (.int (((Jvm.Free.XT.ushr (Jvm.Free.XT.ushr i1 (1 : Int32)) (4 : Int32)) &&& (7 : Int32)) - (3 : Int32)))] [])
      refine own_go (fun t k => XS.aloadN X14.here hx rfl (hb hby at_88) rfl rfl k) ?_
      show own_G p e below _ T14 (mkF m 89 #[.val (.int i0), .val (.int i1), .unset, .val (.ref a4), .val (.int (Jvm.Free.XT.ushr i1 (1 : Int32))), .val (.int (8 : Int32)), .val (.int (((Jvm.Free.XT.ushr (Jvm.Free.XT.ushr i1 (1 : Int32)) (4 : Int32)) &&& (7 : Int32)) - (3 : Int32)))] [(.ref a4)])
      refine own_go (fun t k => XS.iload X14.here hx rfl (hb hby at_89) rfl k) ?_
      show own_G p e below _ T14 (mkF m 91 #[.val (.int i0), .val (.int i1), .unset, .val (.ref a4), .val (.int (Jvm.Free.XT.ushr i1 (1 : Int32))), .val (.int (8 : Int32)), .val (.int (((Jvm.Free.XT.ushr (Jvm.Free.XT.ushr i1 (1 : Int32)) (4 : Int32)) &&& (7 : Int32)) - (3 : Int32)))] [(.int (8 : Int32)), (.ref a4)])
      refine own_go (X14.iaload hx (j := (8 : Int32)) (v := (.int (80 : Int32))) (own_cellAt e14 A14) (State.isArrayOf_alike hZ.alike A14.2.1) A14.2.2 (own_in (n := 10) rfl (by decide)) rfl (g := (mkF m 91 #[.val (.int i0), .val (.int i1), .unset, .val (.ref a4), .val (.int (Jvm.Free.XT.ushr i1 (1 : Int32))), .val (.int (8 : Int32)), .val (.int (((Jvm.Free.XT.ushr (Jvm.Free.XT.ushr i1 (1 : Int32)) (4 : Int32)) &&& (7 : Int32)) - (3 : Int32)))] [(.int (8 : Int32)), (.ref a4)])) rfl rfl (hb hby at_91)) ?_
      show own_G p e below _ T14 (mkF m 92 #[.val (.int i0), .val (.int i1), .unset, .val (.ref a4), .val (.int (Jvm.Free.XT.ushr i1 (1 : Int32))), .val (.int (8 : Int32)), .val (.int (((Jvm.Free.XT.ushr (Jvm.Free.XT.ushr i1 (1 : Int32)) (4 : Int32)) &&& (7 : Int32)) - (3 : Int32)))] [(.int (80 : Int32))])
      refine own_go (fun t k => XS.iload X14.here hx rfl (hb hby at_92) rfl k) ?_
      show own_G p e below _ T14 (mkF m 94 #[.val (.int i0), .val (.int i1), .unset, .val (.ref a4), .val (.int (Jvm.Free.XT.ushr i1 (1 : Int32))), .val (.int (8 : Int32)), .val (.int (((Jvm.Free.XT.ushr (Jvm.Free.XT.ushr i1 (1 : Int32)) (4 : Int32)) &&& (7 : Int32)) - (3 : Int32)))] [(.int (((Jvm.Free.XT.ushr (Jvm.Free.XT.ushr i1 (1 : Int32)) (4 : Int32)) &&& (7 : Int32)) - (3 : Int32))), (.int (80 : Int32))])
      refine own_go (fun t k => XS.iadd X14.here hx rfl (hb hby at_94) rfl k) ?_
      show own_G p e below _ T14 (mkF m 95 #[.val (.int i0), .val (.int i1), .unset, .val (.ref a4), .val (.int (Jvm.Free.XT.ushr i1 (1 : Int32))), .val (.int (8 : Int32)), .val (.int (((Jvm.Free.XT.ushr (Jvm.Free.XT.ushr i1 (1 : Int32)) (4 : Int32)) &&& (7 : Int32)) - (3 : Int32)))] [(.int ((80 : Int32) + (((Jvm.Free.XT.ushr (Jvm.Free.XT.ushr i1 (1 : Int32)) (4 : Int32)) &&& (7 : Int32)) - (3 : Int32))))])
      refine own_go (fun t k => XS.istoreN X14.here hx rfl (hb hby at_95) rfl (l' := #[.val (.int i0), .val (.int i1), .val (.int ((80 : Int32) + (((Jvm.Free.XT.ushr (Jvm.Free.XT.ushr i1 (1 : Int32)) (4 : Int32)) &&& (7 : Int32)) - (3 : Int32)))), .val (.ref a4), .val (.int (Jvm.Free.XT.ushr i1 (1 : Int32))), .val (.int (8 : Int32)), .val (.int (((Jvm.Free.XT.ushr (Jvm.Free.XT.ushr i1 (1 : Int32)) (4 : Int32)) &&& (7 : Int32)) - (3 : Int32)))]) rfl k) ?_
      show own_G p e below _ T14 (mkF m 96 #[.val (.int i0), .val (.int i1), .val (.int ((80 : Int32) + (((Jvm.Free.XT.ushr (Jvm.Free.XT.ushr i1 (1 : Int32)) (4 : Int32)) &&& (7 : Int32)) - (3 : Int32)))), .val (.ref a4), .val (.int (Jvm.Free.XT.ushr i1 (1 : Int32))), .val (.int (8 : Int32)), .val (.int (((Jvm.Free.XT.ushr (Jvm.Free.XT.ushr i1 (1 : Int32)) (4 : Int32)) &&& (7 : Int32)) - (3 : Int32)))] [])
      refine own_go (fun t k => XS.goto X14.here hx rfl (pc0 := 96) (pc' := 101) rfl (hb hby at_96) (by decide) (by decide) k) ?_
      show own_G p e below _ T14 (mkF m 101 #[.val (.int i0), .val (.int i1), .val (.int ((80 : Int32) + (((Jvm.Free.XT.ushr (Jvm.Free.XT.ushr i1 (1 : Int32)) (4 : Int32)) &&& (7 : Int32)) - (3 : Int32)))), .val (.ref a4), .val (.int (Jvm.Free.XT.ushr i1 (1 : Int32))), .val (.int (8 : Int32)), .val (.int (((Jvm.Free.XT.ushr (Jvm.Free.XT.ushr i1 (1 : Int32)) (4 : Int32)) &&& (7 : Int32)) - (3 : Int32)))] [])
      refine own_go (fun t k => XS.iloadN X14.here hx rfl (hb hby at_101) rfl k) ?_
      show own_G p e below _ T14 (mkF m 102 #[.val (.int i0), .val (.int i1), .val (.int ((80 : Int32) + (((Jvm.Free.XT.ushr (Jvm.Free.XT.ushr i1 (1 : Int32)) (4 : Int32)) &&& (7 : Int32)) - (3 : Int32)))), .val (.ref a4), .val (.int (Jvm.Free.XT.ushr i1 (1 : Int32))), .val (.int (8 : Int32)), .val (.int (((Jvm.Free.XT.ushr (Jvm.Free.XT.ushr i1 (1 : Int32)) (4 : Int32)) &&& (7 : Int32)) - (3 : Int32)))] [(.int ((80 : Int32) + (((Jvm.Free.XT.ushr (Jvm.Free.XT.ushr i1 (1 : Int32)) (4 : Int32)) &&& (7 : Int32)) - (3 : Int32))))])
      obtain ⟨T40, L40, v40, X40, ⟨rfl, rfl, q40⟩, st40⟩ := own_callS X14 hx hZ (y := (⟨"com/example/canonry/canonry/Operation", "ofRequestTag", "(I)Lcom/example/canonry/canonry/Operation;"⟩ : MethodName)) hown (hw _ (List.mem_of_getElem? (i := 1) rfl)) (hw _ (List.mem_of_getElem? (i := 2) rfl)) (hw _ (List.mem_of_getElem? (i := 3) rfl)) (hw _ (List.mem_of_getElem? (i := 4) rfl)) (by decide) (c_of l Z a0 hw a_VALUES a_BIND a_UNBIND a_SEARCH a_MODIFY a_ADD a_DELETE a_MODIFY_DN a_COMPARE a_ABANDON a_EXTENDED cl_VALUES ((80 : Int32) + (((Jvm.Free.XT.ushr (Jvm.Free.XT.ushr i1 (1 : Int32)) (4 : Int32)) &&& (7 : Int32)) - (3 : Int32))) h14 (own_B_ext x14 B) ) e14 (argsL := [(.int ((80 : Int32) + (((Jvm.Free.XT.ushr (Jvm.Free.XT.ushr i1 (1 : Int32)) (4 : Int32)) &&& (7 : Int32)) - (3 : Int32))))]) (rest := []) (g := (mkF m 102 #[.val (.int i0), .val (.int i1), .val (.int ((80 : Int32) + (((Jvm.Free.XT.ushr (Jvm.Free.XT.ushr i1 (1 : Int32)) (4 : Int32)) &&& (7 : Int32)) - (3 : Int32)))), .val (.ref a4), .val (.int (Jvm.Free.XT.ushr i1 (1 : Int32))), .val (.int (8 : Int32)), .val (.int (((Jvm.Free.XT.ushr (Jvm.Free.XT.ushr i1 (1 : Int32)) (4 : Int32)) &&& (7 : Int32)) - (3 : Int32)))] [(.int ((80 : Int32) + (((Jvm.Free.XT.ushr (Jvm.Free.XT.ushr i1 (1 : Int32)) (4 : Int32)) &&& (7 : Int32)) - (3 : Int32))))])) rfl (by rw [hml]; rfl) (ps := [.int]) (r := (some (.object "com/example/canonry/canonry/Operation"))) (by decide +kernel) rfl rfl (W := 0) (by show 2 * 0 + _ ≤ _; exact Nat.le_of_eq rfl) (hb hby at_102) (by decide) (by decide) (by decide) (by decide)
      have x40 := own_ext_trans x14 q40
      have A41 := A14.ext q40
      have N40 := Fr.app N14 (Fr.nil n0)
      refine own_go st40 ?_
      show own_G p e below _ T40 (mkF m 105 #[.val (.int i0), .val (.int i1), .val (.int ((80 : Int32) + (((Jvm.Free.XT.ushr (Jvm.Free.XT.ushr i1 (1 : Int32)) (4 : Int32)) &&& (7 : Int32)) - (3 : Int32)))), .val (.ref a4), .val (.int (Jvm.Free.XT.ushr i1 (1 : Int32))), .val (.int (8 : Int32)), .val (.int (((Jvm.Free.XT.ushr (Jvm.Free.XT.ushr i1 (1 : Int32)) (4 : Int32)) &&& (7 : Int32)) - (3 : Int32)))] [(own_of a_VALUES a_BIND a_UNBIND a_SEARCH a_MODIFY a_ADD a_DELETE a_MODIFY_DN a_COMPARE a_ABANDON a_EXTENDED cl_VALUES ((80 : Int32) + (((Jvm.Free.XT.ushr (Jvm.Free.XT.ushr i1 (1 : Int32)) (4 : Int32)) &&& (7 : Int32)) - (3 : Int32))))])
      refine own_go (fun t k => XS.astoreN X40.here hx rfl (hb hby at_105) rfl (own_of_ref a_VALUES a_BIND a_UNBIND a_SEARCH a_MODIFY a_ADD a_DELETE a_MODIFY_DN a_COMPARE a_ABANDON a_EXTENDED cl_VALUES ((80 : Int32) + (((Jvm.Free.XT.ushr (Jvm.Free.XT.ushr i1 (1 : Int32)) (4 : Int32)) &&& (7 : Int32)) - (3 : Int32)))) (l' := #[.val (.int i0), .val (.int i1), .val (.int ((80 : Int32) + (((Jvm.Free.XT.ushr (Jvm.Free.XT.ushr i1 (1 : Int32)) (4 : Int32)) &&& (7 : Int32)) - (3 : Int32)))), .val (own_of a_VALUES a_BIND a_UNBIND a_SEARCH a_MODIFY a_ADD a_DELETE a_MODIFY_DN a_COMPARE a_ABANDON a_EXTENDED cl_VALUES ((80 : Int32) + (((Jvm.Free.XT.ushr (Jvm.Free.XT.ushr i1 (1 : Int32)) (4 : Int32)) &&& (7 : Int32)) - (3 : Int32)))), .val (.int (Jvm.Free.XT.ushr i1 (1 : Int32))), .val (.int (8 : Int32)), .val (.int (((Jvm.Free.XT.ushr (Jvm.Free.XT.ushr i1 (1 : Int32)) (4 : Int32)) &&& (7 : Int32)) - (3 : Int32)))]) (XS.store1 (o := .val (.ref a4)) rfl (Or.inr ⟨_, rfl, rfl⟩) (own_cat (own_of_ref a_VALUES a_BIND a_UNBIND a_SEARCH a_MODIFY a_ADD a_DELETE a_MODIFY_DN a_COMPARE a_ABANDON a_EXTENDED cl_VALUES ((80 : Int32) + (((Jvm.Free.XT.ushr (Jvm.Free.XT.ushr i1 (1 : Int32)) (4 : Int32)) &&& (7 : Int32)) - (3 : Int32)))))) k) ?_
      show own_G p e below _ T40 (mkF m 106 #[.val (.int i0), .val (.int i1), .val (.int ((80 : Int32) + (((Jvm.Free.XT.ushr (Jvm.Free.XT.ushr i1 (1 : Int32)) (4 : Int32)) &&& (7 : Int32)) - (3 : Int32)))), .val (own_of a_VALUES a_BIND a_UNBIND a_SEARCH a_MODIFY a_ADD a_DELETE a_MODIFY_DN a_COMPARE a_ABANDON a_EXTENDED cl_VALUES ((80 : Int32) + (((Jvm.Free.XT.ushr (Jvm.Free.XT.ushr i1 (1 : Int32)) (4 : Int32)) &&& (7 : Int32)) - (3 : Int32)))), .val (.int (Jvm.Free.XT.ushr i1 (1 : Int32))), .val (.int (8 : Int32)), .val (.int (((Jvm.Free.XT.ushr (Jvm.Free.XT.ushr i1 (1 : Int32)) (4 : Int32)) &&& (7 : Int32)) - (3 : Int32)))] [])
      refine own_go (fun t k => XS.aloadN X40.here hx rfl (hb hby at_106) rfl (own_of_ref a_VALUES a_BIND a_UNBIND a_SEARCH a_MODIFY a_ADD a_DELETE a_MODIFY_DN a_COMPARE a_ABANDON a_EXTENDED cl_VALUES ((80 : Int32) + (((Jvm.Free.XT.ushr (Jvm.Free.XT.ushr i1 (1 : Int32)) (4 : Int32)) &&& (7 : Int32)) - (3 : Int32)))) k) ?_
      show own_G p e below _ T40 (mkF m 107 #[.val (.int i0), .val (.int i1), .val (.int ((80 : Int32) + (((Jvm.Free.XT.ushr (Jvm.Free.XT.ushr i1 (1 : Int32)) (4 : Int32)) &&& (7 : Int32)) - (3 : Int32)))), .val (own_of a_VALUES a_BIND a_UNBIND a_SEARCH a_MODIFY a_ADD a_DELETE a_MODIFY_DN a_COMPARE a_ABANDON a_EXTENDED cl_VALUES ((80 : Int32) + (((Jvm.Free.XT.ushr (Jvm.Free.XT.ushr i1 (1 : Int32)) (4 : Int32)) &&& (7 : Int32)) - (3 : Int32)))), .val (.int (Jvm.Free.XT.ushr i1 (1 : Int32))), .val (.int (8 : Int32)), .val (.int (((Jvm.Free.XT.ushr (Jvm.Free.XT.ushr i1 (1 : Int32)) (4 : Int32)) &&& (7 : Int32)) - (3 : Int32)))] [(own_of a_VALUES a_BIND a_UNBIND a_SEARCH a_MODIFY a_ADD a_DELETE a_MODIFY_DN a_COMPARE a_ABANDON a_EXTENDED cl_VALUES ((80 : Int32) + (((Jvm.Free.XT.ushr (Jvm.Free.XT.ushr i1 (1 : Int32)) (4 : Int32)) &&& (7 : Int32)) - (3 : Int32))))])
      refine own_go (fun t k => XS.iloadN X40.here hx rfl (hb hby at_107) rfl k) ?_
      show own_G p e below _ T40 (mkF m 108 #[.val (.int i0), .val (.int i1), .val (.int ((80 : Int32) + (((Jvm.Free.XT.ushr (Jvm.Free.XT.ushr i1 (1 : Int32)) (4 : Int32)) &&& (7 : Int32)) - (3 : Int32)))), .val (own_of a_VALUES a_BIND a_UNBIND a_SEARCH a_MODIFY a_ADD a_DELETE a_MODIFY_DN a_COMPARE a_ABANDON a_EXTENDED cl_VALUES ((80 : Int32) + (((Jvm.Free.XT.ushr (Jvm.Free.XT.ushr i1 (1 : Int32)) (4 : Int32)) &&& (7 : Int32)) - (3 : Int32)))), .val (.int (Jvm.Free.XT.ushr i1 (1 : Int32))), .val (.int (8 : Int32)), .val (.int (((Jvm.Free.XT.ushr (Jvm.Free.XT.ushr i1 (1 : Int32)) (4 : Int32)) &&& (7 : Int32)) - (3 : Int32)))] [(.int ((80 : Int32) + (((Jvm.Free.XT.ushr (Jvm.Free.XT.ushr i1 (1 : Int32)) (4 : Int32)) &&& (7 : Int32)) - (3 : Int32)))), (own_of a_VALUES a_BIND a_UNBIND a_SEARCH a_MODIFY a_ADD a_DELETE a_MODIFY_DN a_COMPARE a_ABANDON a_EXTENDED cl_VALUES ((80 : Int32) + (((Jvm.Free.XT.ushr (Jvm.Free.XT.ushr i1 (1 : Int32)) (4 : Int32)) &&& (7 : Int32)) - (3 : Int32))))])
      obtain ⟨T42, L42, v42, X42, ⟨rfl, rfl, q42⟩, st42⟩ := own_callS X40 hx hZ (y := (⟨"com/example/canonry/canonry/OperationOfRequestTagPinLaw", "expected", "(I)Lcom/example/canonry/canonry/Operation;"⟩ : MethodName)) hown (hw _ (List.mem_of_getElem? (i := 32) rfl)) (hw _ (List.mem_of_getElem? (i := 33) rfl)) (hw _ (List.mem_of_getElem? (i := 34) rfl)) (hw _ (List.mem_of_getElem? (i := 35) rfl)) (by decide) (c_exp l Z a0 hw a_VALUES a_BIND a_UNBIND a_SEARCH a_MODIFY a_ADD a_DELETE a_MODIFY_DN a_COMPARE a_ABANDON a_EXTENDED cl_VALUES ((80 : Int32) + (((Jvm.Free.XT.ushr (Jvm.Free.XT.ushr i1 (1 : Int32)) (4 : Int32)) &&& (7 : Int32)) - (3 : Int32))) T40.heap (own_B_ext x40 B) ) rfl (argsL := [(.int ((80 : Int32) + (((Jvm.Free.XT.ushr (Jvm.Free.XT.ushr i1 (1 : Int32)) (4 : Int32)) &&& (7 : Int32)) - (3 : Int32))))]) (rest := [(own_of a_VALUES a_BIND a_UNBIND a_SEARCH a_MODIFY a_ADD a_DELETE a_MODIFY_DN a_COMPARE a_ABANDON a_EXTENDED cl_VALUES ((80 : Int32) + (((Jvm.Free.XT.ushr (Jvm.Free.XT.ushr i1 (1 : Int32)) (4 : Int32)) &&& (7 : Int32)) - (3 : Int32))))]) (g := (mkF m 108 #[.val (.int i0), .val (.int i1), .val (.int ((80 : Int32) + (((Jvm.Free.XT.ushr (Jvm.Free.XT.ushr i1 (1 : Int32)) (4 : Int32)) &&& (7 : Int32)) - (3 : Int32)))), .val (own_of a_VALUES a_BIND a_UNBIND a_SEARCH a_MODIFY a_ADD a_DELETE a_MODIFY_DN a_COMPARE a_ABANDON a_EXTENDED cl_VALUES ((80 : Int32) + (((Jvm.Free.XT.ushr (Jvm.Free.XT.ushr i1 (1 : Int32)) (4 : Int32)) &&& (7 : Int32)) - (3 : Int32)))), .val (.int (Jvm.Free.XT.ushr i1 (1 : Int32))), .val (.int (8 : Int32)), .val (.int (((Jvm.Free.XT.ushr (Jvm.Free.XT.ushr i1 (1 : Int32)) (4 : Int32)) &&& (7 : Int32)) - (3 : Int32)))] [(.int ((80 : Int32) + (((Jvm.Free.XT.ushr (Jvm.Free.XT.ushr i1 (1 : Int32)) (4 : Int32)) &&& (7 : Int32)) - (3 : Int32)))), (own_of a_VALUES a_BIND a_UNBIND a_SEARCH a_MODIFY a_ADD a_DELETE a_MODIFY_DN a_COMPARE a_ABANDON a_EXTENDED cl_VALUES ((80 : Int32) + (((Jvm.Free.XT.ushr (Jvm.Free.XT.ushr i1 (1 : Int32)) (4 : Int32)) &&& (7 : Int32)) - (3 : Int32))))])) rfl (by rw [hml]; rfl) (ps := [.int]) (r := (some (.object "com/example/canonry/canonry/Operation"))) (by decide +kernel) rfl rfl (W := 1) (by show 2 * 0 + _ ≤ _; simp [own_cat (own_of_ref a_VALUES a_BIND a_UNBIND a_SEARCH a_MODIFY a_ADD a_DELETE a_MODIFY_DN a_COMPARE a_ABANDON a_EXTENDED cl_VALUES ((80 : Int32) + (((Jvm.Free.XT.ushr (Jvm.Free.XT.ushr i1 (1 : Int32)) (4 : Int32)) &&& (7 : Int32)) - (3 : Int32))))]) (hb hby at_108) (by decide) (by decide) (by decide) (by decide)
      have N42 := Fr.app N40 (Fr.nil n0)
      refine own_go st42 ?_
      show own_G p e below _ T42 (mkF m 111 #[.val (.int i0), .val (.int i1), .val (.int ((80 : Int32) + (((Jvm.Free.XT.ushr (Jvm.Free.XT.ushr i1 (1 : Int32)) (4 : Int32)) &&& (7 : Int32)) - (3 : Int32)))), .val (own_of a_VALUES a_BIND a_UNBIND a_SEARCH a_MODIFY a_ADD a_DELETE a_MODIFY_DN a_COMPARE a_ABANDON a_EXTENDED cl_VALUES ((80 : Int32) + (((Jvm.Free.XT.ushr (Jvm.Free.XT.ushr i1 (1 : Int32)) (4 : Int32)) &&& (7 : Int32)) - (3 : Int32)))), .val (.int (Jvm.Free.XT.ushr i1 (1 : Int32))), .val (.int (8 : Int32)), .val (.int (((Jvm.Free.XT.ushr (Jvm.Free.XT.ushr i1 (1 : Int32)) (4 : Int32)) &&& (7 : Int32)) - (3 : Int32)))] [(own_exp a_VALUES a_BIND a_UNBIND a_SEARCH a_MODIFY a_ADD a_DELETE a_MODIFY_DN a_COMPARE a_ABANDON a_EXTENDED cl_VALUES ((80 : Int32) + (((Jvm.Free.XT.ushr (Jvm.Free.XT.ushr i1 (1 : Int32)) (4 : Int32)) &&& (7 : Int32)) - (3 : Int32)))), (own_of a_VALUES a_BIND a_UNBIND a_SEARCH a_MODIFY a_ADD a_DELETE a_MODIFY_DN a_COMPARE a_ABANDON a_EXTENDED cl_VALUES ((80 : Int32) + (((Jvm.Free.XT.ushr (Jvm.Free.XT.ushr i1 (1 : Int32)) (4 : Int32)) &&& (7 : Int32)) - (3 : Int32))))])
      refine own_go (fun t k => Jvm.Free.XT.acmpNo X42.here hx rfl (hb hby at_111) rfl (own_of_ref a_VALUES a_BIND a_UNBIND a_SEARCH a_MODIFY a_ADD a_DELETE a_MODIFY_DN a_COMPARE a_ABANDON a_EXTENDED cl_VALUES ((80 : Int32) + (((Jvm.Free.XT.ushr (Jvm.Free.XT.ushr i1 (1 : Int32)) (4 : Int32)) &&& (7 : Int32)) - (3 : Int32)))) (own_exp_ref a_VALUES a_BIND a_UNBIND a_SEARCH a_MODIFY a_ADD a_DELETE a_MODIFY_DN a_COMPARE a_ABANDON a_EXTENDED cl_VALUES ((80 : Int32) + (((Jvm.Free.XT.ushr (Jvm.Free.XT.ushr i1 (1 : Int32)) (4 : Int32)) &&& (7 : Int32)) - (3 : Int32)))) (own_acVF (own_same a_VALUES a_BIND a_UNBIND a_SEARCH a_MODIFY a_ADD a_DELETE a_MODIFY_DN a_COMPARE a_ABANDON a_EXTENDED cl_VALUES ((80 : Int32) + (((Jvm.Free.XT.ushr (Jvm.Free.XT.ushr i1 (1 : Int32)) (4 : Int32)) &&& (7 : Int32)) - (3 : Int32))))) k) ?_
      show own_G p e below _ T42 (mkF m 114 #[.val (.int i0), .val (.int i1), .val (.int ((80 : Int32) + (((Jvm.Free.XT.ushr (Jvm.Free.XT.ushr i1 (1 : Int32)) (4 : Int32)) &&& (7 : Int32)) - (3 : Int32)))), .val (own_of a_VALUES a_BIND a_UNBIND a_SEARCH a_MODIFY a_ADD a_DELETE a_MODIFY_DN a_COMPARE a_ABANDON a_EXTENDED cl_VALUES ((80 : Int32) + (((Jvm.Free.XT.ushr (Jvm.Free.XT.ushr i1 (1 : Int32)) (4 : Int32)) &&& (7 : Int32)) - (3 : Int32)))), .val (.int (Jvm.Free.XT.ushr i1 (1 : Int32))), .val (.int (8 : Int32)), .val (.int (((Jvm.Free.XT.ushr (Jvm.Free.XT.ushr i1 (1 : Int32)) (4 : Int32)) &&& (7 : Int32)) - (3 : Int32)))] [])
      refine own_go (fun t k => XS.iconst X42.here hx rfl (hb hby at_114) k) ?_
      show own_G p e below _ T42 (mkF m 115 #[.val (.int i0), .val (.int i1), .val (.int ((80 : Int32) + (((Jvm.Free.XT.ushr (Jvm.Free.XT.ushr i1 (1 : Int32)) (4 : Int32)) &&& (7 : Int32)) - (3 : Int32)))), .val (own_of a_VALUES a_BIND a_UNBIND a_SEARCH a_MODIFY a_ADD a_DELETE a_MODIFY_DN a_COMPARE a_ABANDON a_EXTENDED cl_VALUES ((80 : Int32) + (((Jvm.Free.XT.ushr (Jvm.Free.XT.ushr i1 (1 : Int32)) (4 : Int32)) &&& (7 : Int32)) - (3 : Int32)))), .val (.int (Jvm.Free.XT.ushr i1 (1 : Int32))), .val (.int (8 : Int32)), .val (.int (((Jvm.Free.XT.ushr (Jvm.Free.XT.ushr i1 (1 : Int32)) (4 : Int32)) &&& (7 : Int32)) - (3 : Int32)))] [(.int (1 : Int32))])
      refine own_go (fun t k => XS.goto X42.here hx rfl (pc0 := 115) (pc' := 119) rfl (hb hby at_115) (by decide) (by decide) k) ?_
      show own_G p e below _ T42 (mkF m 119 #[.val (.int i0), .val (.int i1), .val (.int ((80 : Int32) + (((Jvm.Free.XT.ushr (Jvm.Free.XT.ushr i1 (1 : Int32)) (4 : Int32)) &&& (7 : Int32)) - (3 : Int32)))), .val (own_of a_VALUES a_BIND a_UNBIND a_SEARCH a_MODIFY a_ADD a_DELETE a_MODIFY_DN a_COMPARE a_ABANDON a_EXTENDED cl_VALUES ((80 : Int32) + (((Jvm.Free.XT.ushr (Jvm.Free.XT.ushr i1 (1 : Int32)) (4 : Int32)) &&& (7 : Int32)) - (3 : Int32)))), .val (.int (Jvm.Free.XT.ushr i1 (1 : Int32))), .val (.int (8 : Int32)), .val (.int (((Jvm.Free.XT.ushr (Jvm.Free.XT.ushr i1 (1 : Int32)) (4 : Int32)) &&& (7 : Int32)) - (3 : Int32)))] [(.int (1 : Int32))])
      exact own_retN X42 hx hlk hret (by simp) (hb hby at_119) (by decide) (by decide) ⟨rfl, N42⟩
    · rw [hk15]
      show own_G p e below _ T14 (mkF m 88 #[.val (.int i0), .val (.int i1), .unset, .val (.ref a4), .val (.int (Jvm.Free.XT.ushr i1 (1 : Int32))), .val (.int (9 : Int32)), .val (.int (((Jvm.Free.XT.ushr (Jvm.Free.XT.ushr i1 (1 : Int32)) (4 : Int32)) &&& (7 : Int32)) - (3 : Int32)))] [])
      refine own_go (fun t k => XS.aloadN X14.here hx rfl (hb hby at_88) rfl rfl k) ?_
      show own_G p e below _ T14 (mkF m 89 #[.val (.int i0), .val (.int i1), .unset, .val (.ref a4), .val (.int (Jvm.Free.XT.ushr i1 (1 : Int32))), .val (.int (9 : Int32)), .val (.int (((Jvm.Free.XT.ushr (Jvm.Free.XT.ushr i1 (1 : Int32)) (4 : Int32)) &&& (7 : Int32)) - (3 : Int32)))] [(.ref a4)])
      refine own_go (fun t k => XS.iload X14.here hx rfl (hb hby at_89) rfl k) ?_
      show own_G p e below _ T14 (mkF m 91 #[.val (.int i0), .val (.int i1), .unset, .val (.ref a4), .val (.int (Jvm.Free.XT.ushr i1 (1 : Int32))), .val (.int (9 : Int32)), .val (.int (((Jvm.Free.XT.ushr (Jvm.Free.XT.ushr i1 (1 : Int32)) (4 : Int32)) &&& (7 : Int32)) - (3 : Int32)))] [(.int (9 : Int32)), (.ref a4)])
      refine own_go (X14.iaload hx (j := (9 : Int32)) (v := (.int (119 : Int32))) (own_cellAt e14 A14) (State.isArrayOf_alike hZ.alike A14.2.1) A14.2.2 (own_in (n := 10) rfl (by decide)) rfl (g := (mkF m 91 #[.val (.int i0), .val (.int i1), .unset, .val (.ref a4), .val (.int (Jvm.Free.XT.ushr i1 (1 : Int32))), .val (.int (9 : Int32)), .val (.int (((Jvm.Free.XT.ushr (Jvm.Free.XT.ushr i1 (1 : Int32)) (4 : Int32)) &&& (7 : Int32)) - (3 : Int32)))] [(.int (9 : Int32)), (.ref a4)])) rfl rfl (hb hby at_91)) ?_
      show own_G p e below _ T14 (mkF m 92 #[.val (.int i0), .val (.int i1), .unset, .val (.ref a4), .val (.int (Jvm.Free.XT.ushr i1 (1 : Int32))), .val (.int (9 : Int32)), .val (.int (((Jvm.Free.XT.ushr (Jvm.Free.XT.ushr i1 (1 : Int32)) (4 : Int32)) &&& (7 : Int32)) - (3 : Int32)))] [(.int (119 : Int32))])
      refine own_go (fun t k => XS.iload X14.here hx rfl (hb hby at_92) rfl k) ?_
      show own_G p e below _ T14 (mkF m 94 #[.val (.int i0), .val (.int i1), .unset, .val (.ref a4), .val (.int (Jvm.Free.XT.ushr i1 (1 : Int32))), .val (.int (9 : Int32)), .val (.int (((Jvm.Free.XT.ushr (Jvm.Free.XT.ushr i1 (1 : Int32)) (4 : Int32)) &&& (7 : Int32)) - (3 : Int32)))] [(.int (((Jvm.Free.XT.ushr (Jvm.Free.XT.ushr i1 (1 : Int32)) (4 : Int32)) &&& (7 : Int32)) - (3 : Int32))), (.int (119 : Int32))])
      refine own_go (fun t k => XS.iadd X14.here hx rfl (hb hby at_94) rfl k) ?_
      show own_G p e below _ T14 (mkF m 95 #[.val (.int i0), .val (.int i1), .unset, .val (.ref a4), .val (.int (Jvm.Free.XT.ushr i1 (1 : Int32))), .val (.int (9 : Int32)), .val (.int (((Jvm.Free.XT.ushr (Jvm.Free.XT.ushr i1 (1 : Int32)) (4 : Int32)) &&& (7 : Int32)) - (3 : Int32)))] [(.int ((119 : Int32) + (((Jvm.Free.XT.ushr (Jvm.Free.XT.ushr i1 (1 : Int32)) (4 : Int32)) &&& (7 : Int32)) - (3 : Int32))))])
      refine own_go (fun t k => XS.istoreN X14.here hx rfl (hb hby at_95) rfl (l' := #[.val (.int i0), .val (.int i1), .val (.int ((119 : Int32) + (((Jvm.Free.XT.ushr (Jvm.Free.XT.ushr i1 (1 : Int32)) (4 : Int32)) &&& (7 : Int32)) - (3 : Int32)))), .val (.ref a4), .val (.int (Jvm.Free.XT.ushr i1 (1 : Int32))), .val (.int (9 : Int32)), .val (.int (((Jvm.Free.XT.ushr (Jvm.Free.XT.ushr i1 (1 : Int32)) (4 : Int32)) &&& (7 : Int32)) - (3 : Int32)))]) rfl k) ?_
      show own_G p e below _ T14 (mkF m 96 #[.val (.int i0), .val (.int i1), .val (.int ((119 : Int32) + (((Jvm.Free.XT.ushr (Jvm.Free.XT.ushr i1 (1 : Int32)) (4 : Int32)) &&& (7 : Int32)) - (3 : Int32)))), .val (.ref a4), .val (.int (Jvm.Free.XT.ushr i1 (1 : Int32))), .val (.int (9 : Int32)), .val (.int (((Jvm.Free.XT.ushr (Jvm.Free.XT.ushr i1 (1 : Int32)) (4 : Int32)) &&& (7 : Int32)) - (3 : Int32)))] [])
      refine own_go (fun t k => XS.goto X14.here hx rfl (pc0 := 96) (pc' := 101) rfl (hb hby at_96) (by decide) (by decide) k) ?_
      show own_G p e below _ T14 (mkF m 101 #[.val (.int i0), .val (.int i1), .val (.int ((119 : Int32) + (((Jvm.Free.XT.ushr (Jvm.Free.XT.ushr i1 (1 : Int32)) (4 : Int32)) &&& (7 : Int32)) - (3 : Int32)))), .val (.ref a4), .val (.int (Jvm.Free.XT.ushr i1 (1 : Int32))), .val (.int (9 : Int32)), .val (.int (((Jvm.Free.XT.ushr (Jvm.Free.XT.ushr i1 (1 : Int32)) (4 : Int32)) &&& (7 : Int32)) - (3 : Int32)))] [])
      refine own_go (fun t k => XS.iloadN X14.here hx rfl (hb hby at_101) rfl k) ?_
      show own_G p e below _ T14 (mkF m 102 #[.val (.int i0), .val (.int i1), .val (.int ((119 : Int32) + (((Jvm.Free.XT.ushr (Jvm.Free.XT.ushr i1 (1 : Int32)) (4 : Int32)) &&& (7 : Int32)) - (3 : Int32)))), .val (.ref a4), .val (.int (Jvm.Free.XT.ushr i1 (1 : Int32))), .val (.int (9 : Int32)), .val (.int (((Jvm.Free.XT.ushr (Jvm.Free.XT.ushr i1 (1 : Int32)) (4 : Int32)) &&& (7 : Int32)) - (3 : Int32)))] [(.int ((119 : Int32) + (((Jvm.Free.XT.ushr (Jvm.Free.XT.ushr i1 (1 : Int32)) (4 : Int32)) &&& (7 : Int32)) - (3 : Int32))))])
      obtain ⟨T43, L43, v43, X43, ⟨rfl, rfl, q43⟩, st43⟩ := own_callS X14 hx hZ (y := (⟨"com/example/canonry/canonry/Operation", "ofRequestTag", "(I)Lcom/example/canonry/canonry/Operation;"⟩ : MethodName)) hown (hw _ (List.mem_of_getElem? (i := 1) rfl)) (hw _ (List.mem_of_getElem? (i := 2) rfl)) (hw _ (List.mem_of_getElem? (i := 3) rfl)) (hw _ (List.mem_of_getElem? (i := 4) rfl)) (by decide) (c_of l Z a0 hw a_VALUES a_BIND a_UNBIND a_SEARCH a_MODIFY a_ADD a_DELETE a_MODIFY_DN a_COMPARE a_ABANDON a_EXTENDED cl_VALUES ((119 : Int32) + (((Jvm.Free.XT.ushr (Jvm.Free.XT.ushr i1 (1 : Int32)) (4 : Int32)) &&& (7 : Int32)) - (3 : Int32))) h14 (own_B_ext x14 B) ) e14 (argsL := [(.int ((119 : Int32) + (((Jvm.Free.XT.ushr (Jvm.Free.XT.ushr i1 (1 : Int32)) (4 : Int32)) &&& (7 : Int32)) - (3 : Int32))))]) (rest := []) (g := (mkF m 102 #[.val (.int i0), .val (.int i1), .val (.int ((119 : Int32) + (((Jvm.Free.XT.ushr (Jvm.Free.XT.ushr i1 (1 : Int32)) (4 : Int32)) &&& (7 : Int32)) - (3 : Int32)))), .val (.ref a4), .val (.int (Jvm.Free.XT.ushr i1 (1 : Int32))), .val (.int (9 : Int32)), .val (.int (((Jvm.Free.XT.ushr (Jvm.Free.XT.ushr i1 (1 : Int32)) (4 : Int32)) &&& (7 : Int32)) - (3 : Int32)))] [(.int ((119 : Int32) + (((Jvm.Free.XT.ushr (Jvm.Free.XT.ushr i1 (1 : Int32)) (4 : Int32)) &&& (7 : Int32)) - (3 : Int32))))])) rfl (by rw [hml]; rfl) (ps := [.int]) (r := (some (.object "com/example/canonry/canonry/Operation"))) (by decide +kernel) rfl rfl (W := 0) (by show 2 * 0 + _ ≤ _; exact Nat.le_of_eq rfl) (hb hby at_102) (by decide) (by decide) (by decide) (by decide)
      have x43 := own_ext_trans x14 q43
      have A44 := A14.ext q43
      have N43 := Fr.app N14 (Fr.nil n0)
      refine own_go st43 ?_
      show own_G p e below _ T43 (mkF m 105 #[.val (.int i0), .val (.int i1), .val (.int ((119 : Int32) + (((Jvm.Free.XT.ushr (Jvm.Free.XT.ushr i1 (1 : Int32)) (4 : Int32)) &&& (7 : Int32)) - (3 : Int32)))), .val (.ref a4), .val (.int (Jvm.Free.XT.ushr i1 (1 : Int32))), .val (.int (9 : Int32)), .val (.int (((Jvm.Free.XT.ushr (Jvm.Free.XT.ushr i1 (1 : Int32)) (4 : Int32)) &&& (7 : Int32)) - (3 : Int32)))] [(own_of a_VALUES a_BIND a_UNBIND a_SEARCH a_MODIFY a_ADD a_DELETE a_MODIFY_DN a_COMPARE a_ABANDON a_EXTENDED cl_VALUES ((119 : Int32) + (((Jvm.Free.XT.ushr (Jvm.Free.XT.ushr i1 (1 : Int32)) (4 : Int32)) &&& (7 : Int32)) - (3 : Int32))))])
      refine own_go (fun t k => XS.astoreN X43.here hx rfl (hb hby at_105) rfl (own_of_ref a_VALUES a_BIND a_UNBIND a_SEARCH a_MODIFY a_ADD a_DELETE a_MODIFY_DN a_COMPARE a_ABANDON a_EXTENDED cl_VALUES ((119 : Int32) + (((Jvm.Free.XT.ushr (Jvm.Free.XT.ushr i1 (1 : Int32)) (4 : Int32)) &&& (7 : Int32)) - (3 : Int32)))) (l' := #[.val (.int i0), .val (.int i1), .val (.int ((119 : Int32) + (((Jvm.Free.XT.ushr (Jvm.Free.XT.ushr i1 (1 : Int32)) (4 : Int32)) &&& (7 : Int32)) - (3 : Int32)))), .val (own_of a_VALUES a_BIND a_UNBIND a_SEARCH a_MODIFY a_ADD a_DELETE a_MODIFY_DN a_COMPARE a_ABANDON a_EXTENDED cl_VALUES ((119 : Int32) + (((Jvm.Free.XT.ushr (Jvm.Free.XT.ushr i1 (1 : Int32)) (4 : Int32)) &&& (7 : Int32)) - (3 : Int32)))), .val (.int (Jvm.Free.XT.ushr i1 (1 : Int32))), .val (.int (9 : Int32)), .val (.int (((Jvm.Free.XT.ushr (Jvm.Free.XT.ushr i1 (1 : Int32)) (4 : Int32)) &&& (7 : Int32)) - (3 : Int32)))]) (XS.store1 (o := .val (.ref a4)) rfl (Or.inr ⟨_, rfl, rfl⟩) (own_cat (own_of_ref a_VALUES a_BIND a_UNBIND a_SEARCH a_MODIFY a_ADD a_DELETE a_MODIFY_DN a_COMPARE a_ABANDON a_EXTENDED cl_VALUES ((119 : Int32) + (((Jvm.Free.XT.ushr (Jvm.Free.XT.ushr i1 (1 : Int32)) (4 : Int32)) &&& (7 : Int32)) - (3 : Int32)))))) k) ?_
      show own_G p e below _ T43 (mkF m 106 #[.val (.int i0), .val (.int i1), .val (.int ((119 : Int32) + (((Jvm.Free.XT.ushr (Jvm.Free.XT.ushr i1 (1 : Int32)) (4 : Int32)) &&& (7 : Int32)) - (3 : Int32)))), .val (own_of a_VALUES a_BIND a_UNBIND a_SEARCH a_MODIFY a_ADD a_DELETE a_MODIFY_DN a_COMPARE a_ABANDON a_EXTENDED cl_VALUES ((119 : Int32) + (((Jvm.Free.XT.ushr (Jvm.Free.XT.ushr i1 (1 : Int32)) (4 : Int32)) &&& (7 : Int32)) - (3 : Int32)))), .val (.int (Jvm.Free.XT.ushr i1 (1 : Int32))), .val (.int (9 : Int32)), .val (.int (((Jvm.Free.XT.ushr (Jvm.Free.XT.ushr i1 (1 : Int32)) (4 : Int32)) &&& (7 : Int32)) - (3 : Int32)))] [])
      refine own_go (fun t k => XS.aloadN X43.here hx rfl (hb hby at_106) rfl (own_of_ref a_VALUES a_BIND a_UNBIND a_SEARCH a_MODIFY a_ADD a_DELETE a_MODIFY_DN a_COMPARE a_ABANDON a_EXTENDED cl_VALUES ((119 : Int32) + (((Jvm.Free.XT.ushr (Jvm.Free.XT.ushr i1 (1 : Int32)) (4 : Int32)) &&& (7 : Int32)) - (3 : Int32)))) k) ?_
      show own_G p e below _ T43 (mkF m 107 #[.val (.int i0), .val (.int i1), .val (.int ((119 : Int32) + (((Jvm.Free.XT.ushr (Jvm.Free.XT.ushr i1 (1 : Int32)) (4 : Int32)) &&& (7 : Int32)) - (3 : Int32)))), .val (own_of a_VALUES a_BIND a_UNBIND a_SEARCH a_MODIFY a_ADD a_DELETE a_MODIFY_DN a_COMPARE a_ABANDON a_EXTENDED cl_VALUES ((119 : Int32) + (((Jvm.Free.XT.ushr (Jvm.Free.XT.ushr i1 (1 : Int32)) (4 : Int32)) &&& (7 : Int32)) - (3 : Int32)))), .val (.int (Jvm.Free.XT.ushr i1 (1 : Int32))), .val (.int (9 : Int32)), .val (.int (((Jvm.Free.XT.ushr (Jvm.Free.XT.ushr i1 (1 : Int32)) (4 : Int32)) &&& (7 : Int32)) - (3 : Int32)))] [(own_of a_VALUES a_BIND a_UNBIND a_SEARCH a_MODIFY a_ADD a_DELETE a_MODIFY_DN a_COMPARE a_ABANDON a_EXTENDED cl_VALUES ((119 : Int32) + (((Jvm.Free.XT.ushr (Jvm.Free.XT.ushr i1 (1 : Int32)) (4 : Int32)) &&& (7 : Int32)) - (3 : Int32))))])
      refine own_go (fun t k => XS.iloadN X43.here hx rfl (hb hby at_107) rfl k) ?_
      show own_G p e below _ T43 (mkF m 108 #[.val (.int i0), .val (.int i1), .val (.int ((119 : Int32) + (((Jvm.Free.XT.ushr (Jvm.Free.XT.ushr i1 (1 : Int32)) (4 : Int32)) &&& (7 : Int32)) - (3 : Int32)))), .val (own_of a_VALUES a_BIND a_UNBIND a_SEARCH a_MODIFY a_ADD a_DELETE a_MODIFY_DN a_COMPARE a_ABANDON a_EXTENDED cl_VALUES ((119 : Int32) + (((Jvm.Free.XT.ushr (Jvm.Free.XT.ushr i1 (1 : Int32)) (4 : Int32)) &&& (7 : Int32)) - (3 : Int32)))), .val (.int (Jvm.Free.XT.ushr i1 (1 : Int32))), .val (.int (9 : Int32)), .val (.int (((Jvm.Free.XT.ushr (Jvm.Free.XT.ushr i1 (1 : Int32)) (4 : Int32)) &&& (7 : Int32)) - (3 : Int32)))] [(.int ((119 : Int32) + (((Jvm.Free.XT.ushr (Jvm.Free.XT.ushr i1 (1 : Int32)) (4 : Int32)) &&& (7 : Int32)) - (3 : Int32)))), (own_of a_VALUES a_BIND a_UNBIND a_SEARCH a_MODIFY a_ADD a_DELETE a_MODIFY_DN a_COMPARE a_ABANDON a_EXTENDED cl_VALUES ((119 : Int32) + (((Jvm.Free.XT.ushr (Jvm.Free.XT.ushr i1 (1 : Int32)) (4 : Int32)) &&& (7 : Int32)) - (3 : Int32))))])
      obtain ⟨T45, L45, v45, X45, ⟨rfl, rfl, q45⟩, st45⟩ := own_callS X43 hx hZ (y := (⟨"com/example/canonry/canonry/OperationOfRequestTagPinLaw", "expected", "(I)Lcom/example/canonry/canonry/Operation;"⟩ : MethodName)) hown (hw _ (List.mem_of_getElem? (i := 32) rfl)) (hw _ (List.mem_of_getElem? (i := 33) rfl)) (hw _ (List.mem_of_getElem? (i := 34) rfl)) (hw _ (List.mem_of_getElem? (i := 35) rfl)) (by decide) (c_exp l Z a0 hw a_VALUES a_BIND a_UNBIND a_SEARCH a_MODIFY a_ADD a_DELETE a_MODIFY_DN a_COMPARE a_ABANDON a_EXTENDED cl_VALUES ((119 : Int32) + (((Jvm.Free.XT.ushr (Jvm.Free.XT.ushr i1 (1 : Int32)) (4 : Int32)) &&& (7 : Int32)) - (3 : Int32))) T43.heap (own_B_ext x43 B) ) rfl (argsL := [(.int ((119 : Int32) + (((Jvm.Free.XT.ushr (Jvm.Free.XT.ushr i1 (1 : Int32)) (4 : Int32)) &&& (7 : Int32)) - (3 : Int32))))]) (rest := [(own_of a_VALUES a_BIND a_UNBIND a_SEARCH a_MODIFY a_ADD a_DELETE a_MODIFY_DN a_COMPARE a_ABANDON a_EXTENDED cl_VALUES ((119 : Int32) + (((Jvm.Free.XT.ushr (Jvm.Free.XT.ushr i1 (1 : Int32)) (4 : Int32)) &&& (7 : Int32)) - (3 : Int32))))]) (g := (mkF m 108 #[.val (.int i0), .val (.int i1), .val (.int ((119 : Int32) + (((Jvm.Free.XT.ushr (Jvm.Free.XT.ushr i1 (1 : Int32)) (4 : Int32)) &&& (7 : Int32)) - (3 : Int32)))), .val (own_of a_VALUES a_BIND a_UNBIND a_SEARCH a_MODIFY a_ADD a_DELETE a_MODIFY_DN a_COMPARE a_ABANDON a_EXTENDED cl_VALUES ((119 : Int32) + (((Jvm.Free.XT.ushr (Jvm.Free.XT.ushr i1 (1 : Int32)) (4 : Int32)) &&& (7 : Int32)) - (3 : Int32)))), .val (.int (Jvm.Free.XT.ushr i1 (1 : Int32))), .val (.int (9 : Int32)), .val (.int (((Jvm.Free.XT.ushr (Jvm.Free.XT.ushr i1 (1 : Int32)) (4 : Int32)) &&& (7 : Int32)) - (3 : Int32)))] [(.int ((119 : Int32) + (((Jvm.Free.XT.ushr (Jvm.Free.XT.ushr i1 (1 : Int32)) (4 : Int32)) &&& (7 : Int32)) - (3 : Int32)))), (own_of a_VALUES a_BIND a_UNBIND a_SEARCH a_MODIFY a_ADD a_DELETE a_MODIFY_DN a_COMPARE a_ABANDON a_EXTENDED cl_VALUES ((119 : Int32) + (((Jvm.Free.XT.ushr (Jvm.Free.XT.ushr i1 (1 : Int32)) (4 : Int32)) &&& (7 : Int32)) - (3 : Int32))))])) rfl (by rw [hml]; rfl) (ps := [.int]) (r := (some (.object "com/example/canonry/canonry/Operation"))) (by decide +kernel) rfl rfl (W := 1) (by show 2 * 0 + _ ≤ _; simp [own_cat (own_of_ref a_VALUES a_BIND a_UNBIND a_SEARCH a_MODIFY a_ADD a_DELETE a_MODIFY_DN a_COMPARE a_ABANDON a_EXTENDED cl_VALUES ((119 : Int32) + (((Jvm.Free.XT.ushr (Jvm.Free.XT.ushr i1 (1 : Int32)) (4 : Int32)) &&& (7 : Int32)) - (3 : Int32))))]) (hb hby at_108) (by decide) (by decide) (by decide) (by decide)
      have N45 := Fr.app N43 (Fr.nil n0)
      refine own_go st45 ?_
      show own_G p e below _ T45 (mkF m 111 #[.val (.int i0), .val (.int i1), .val (.int ((119 : Int32) + (((Jvm.Free.XT.ushr (Jvm.Free.XT.ushr i1 (1 : Int32)) (4 : Int32)) &&& (7 : Int32)) - (3 : Int32)))), .val (own_of a_VALUES a_BIND a_UNBIND a_SEARCH a_MODIFY a_ADD a_DELETE a_MODIFY_DN a_COMPARE a_ABANDON a_EXTENDED cl_VALUES ((119 : Int32) + (((Jvm.Free.XT.ushr (Jvm.Free.XT.ushr i1 (1 : Int32)) (4 : Int32)) &&& (7 : Int32)) - (3 : Int32)))), .val (.int (Jvm.Free.XT.ushr i1 (1 : Int32))), .val (.int (9 : Int32)), .val (.int (((Jvm.Free.XT.ushr (Jvm.Free.XT.ushr i1 (1 : Int32)) (4 : Int32)) &&& (7 : Int32)) - (3 : Int32)))] [(own_exp a_VALUES a_BIND a_UNBIND a_SEARCH a_MODIFY a_ADD a_DELETE a_MODIFY_DN a_COMPARE a_ABANDON a_EXTENDED cl_VALUES ((119 : Int32) + (((Jvm.Free.XT.ushr (Jvm.Free.XT.ushr i1 (1 : Int32)) (4 : Int32)) &&& (7 : Int32)) - (3 : Int32)))), (own_of a_VALUES a_BIND a_UNBIND a_SEARCH a_MODIFY a_ADD a_DELETE a_MODIFY_DN a_COMPARE a_ABANDON a_EXTENDED cl_VALUES ((119 : Int32) + (((Jvm.Free.XT.ushr (Jvm.Free.XT.ushr i1 (1 : Int32)) (4 : Int32)) &&& (7 : Int32)) - (3 : Int32))))])
      refine own_go (fun t k => Jvm.Free.XT.acmpNo X45.here hx rfl (hb hby at_111) rfl (own_of_ref a_VALUES a_BIND a_UNBIND a_SEARCH a_MODIFY a_ADD a_DELETE a_MODIFY_DN a_COMPARE a_ABANDON a_EXTENDED cl_VALUES ((119 : Int32) + (((Jvm.Free.XT.ushr (Jvm.Free.XT.ushr i1 (1 : Int32)) (4 : Int32)) &&& (7 : Int32)) - (3 : Int32)))) (own_exp_ref a_VALUES a_BIND a_UNBIND a_SEARCH a_MODIFY a_ADD a_DELETE a_MODIFY_DN a_COMPARE a_ABANDON a_EXTENDED cl_VALUES ((119 : Int32) + (((Jvm.Free.XT.ushr (Jvm.Free.XT.ushr i1 (1 : Int32)) (4 : Int32)) &&& (7 : Int32)) - (3 : Int32)))) (own_acVF (own_same a_VALUES a_BIND a_UNBIND a_SEARCH a_MODIFY a_ADD a_DELETE a_MODIFY_DN a_COMPARE a_ABANDON a_EXTENDED cl_VALUES ((119 : Int32) + (((Jvm.Free.XT.ushr (Jvm.Free.XT.ushr i1 (1 : Int32)) (4 : Int32)) &&& (7 : Int32)) - (3 : Int32))))) k) ?_
      show own_G p e below _ T45 (mkF m 114 #[.val (.int i0), .val (.int i1), .val (.int ((119 : Int32) + (((Jvm.Free.XT.ushr (Jvm.Free.XT.ushr i1 (1 : Int32)) (4 : Int32)) &&& (7 : Int32)) - (3 : Int32)))), .val (own_of a_VALUES a_BIND a_UNBIND a_SEARCH a_MODIFY a_ADD a_DELETE a_MODIFY_DN a_COMPARE a_ABANDON a_EXTENDED cl_VALUES ((119 : Int32) + (((Jvm.Free.XT.ushr (Jvm.Free.XT.ushr i1 (1 : Int32)) (4 : Int32)) &&& (7 : Int32)) - (3 : Int32)))), .val (.int (Jvm.Free.XT.ushr i1 (1 : Int32))), .val (.int (9 : Int32)), .val (.int (((Jvm.Free.XT.ushr (Jvm.Free.XT.ushr i1 (1 : Int32)) (4 : Int32)) &&& (7 : Int32)) - (3 : Int32)))] [])
      refine own_go (fun t k => XS.iconst X45.here hx rfl (hb hby at_114) k) ?_
      show own_G p e below _ T45 (mkF m 115 #[.val (.int i0), .val (.int i1), .val (.int ((119 : Int32) + (((Jvm.Free.XT.ushr (Jvm.Free.XT.ushr i1 (1 : Int32)) (4 : Int32)) &&& (7 : Int32)) - (3 : Int32)))), .val (own_of a_VALUES a_BIND a_UNBIND a_SEARCH a_MODIFY a_ADD a_DELETE a_MODIFY_DN a_COMPARE a_ABANDON a_EXTENDED cl_VALUES ((119 : Int32) + (((Jvm.Free.XT.ushr (Jvm.Free.XT.ushr i1 (1 : Int32)) (4 : Int32)) &&& (7 : Int32)) - (3 : Int32)))), .val (.int (Jvm.Free.XT.ushr i1 (1 : Int32))), .val (.int (9 : Int32)), .val (.int (((Jvm.Free.XT.ushr (Jvm.Free.XT.ushr i1 (1 : Int32)) (4 : Int32)) &&& (7 : Int32)) - (3 : Int32)))] [(.int (1 : Int32))])
      refine own_go (fun t k => XS.goto X45.here hx rfl (pc0 := 115) (pc' := 119) rfl (hb hby at_115) (by decide) (by decide) k) ?_
      show own_G p e below _ T45 (mkF m 119 #[.val (.int i0), .val (.int i1), .val (.int ((119 : Int32) + (((Jvm.Free.XT.ushr (Jvm.Free.XT.ushr i1 (1 : Int32)) (4 : Int32)) &&& (7 : Int32)) - (3 : Int32)))), .val (own_of a_VALUES a_BIND a_UNBIND a_SEARCH a_MODIFY a_ADD a_DELETE a_MODIFY_DN a_COMPARE a_ABANDON a_EXTENDED cl_VALUES ((119 : Int32) + (((Jvm.Free.XT.ushr (Jvm.Free.XT.ushr i1 (1 : Int32)) (4 : Int32)) &&& (7 : Int32)) - (3 : Int32)))), .val (.int (Jvm.Free.XT.ushr i1 (1 : Int32))), .val (.int (9 : Int32)), .val (.int (((Jvm.Free.XT.ushr (Jvm.Free.XT.ushr i1 (1 : Int32)) (4 : Int32)) &&& (7 : Int32)) - (3 : Int32)))] [(.int (1 : Int32))])
      exact own_retN X45 hx hlk hret (by simp) (hb hby at_119) (by decide) (by decide) ⟨rfl, N45⟩
set_option maxRecDepth 65536 in
set_option maxHeartbeats 40000000 in
theorem comes_1 {Post : Tables → Env → Array Value → State → Outcome → State → Prop} (hpost : ∀ tb e args s v u, (limb_1_1.after args s (.returned v) u = true ∧ limb_1_2.after args s (.returned v) u = true ∧ True) → FrameEnd s (.returned v) u (Jvm.fieldLocs frame_1_writes args s ++ Jvm.arrayLocs frame_1_arrays args s ++ Jvm.staticLocs frame_1_statics s) 16 128 → Post tb e args s (.returned v) u) :
    ArmFor flags0 classFile x code maxLocals ret World_1 tables_1 room_1 Calls_1 rest_1 Pre_1 Post := by
  intro l hfl _ _ p e ha hc hk s m args below hf hA hF happ hP
  obtain ⟨hcalls, hrest, hpre⟩ := hP
  obtain ⟨-, -, -, hnamed, -, -, -, hat⟩ := (Spec.applies_iff hf).mp happ
  obtain ⟨hg, hn⟩ := and_e (Cond.before_iff.mp (show (Jvm.Cond.and given_1 narrow_1).before args s = true from hpre))
  obtain ⟨h1, hg⟩ := and_e hg
  obtain ⟨w0, w1, rfl⟩ : ∃ w0 w1 : Value, args = #[w0, w1] := by
    have hs : args.size = 2 := by simpa [Cond.value, given_1] using h1
    obtain ⟨L⟩ := args
    match L, hs with
    | [w0, w1], _ => exact ⟨w0, w1, rfl⟩
  obtain ⟨hi0, hg⟩ := and_e hg
  obtain ⟨i0, ei0⟩ := is_v hi0
  obtain rfl : w0 = (.int i0) := Option.some.inj ei0
  obtain ⟨i1, ei1⟩ := is_v hg
  obtain rfl : w1 = (.int i1) := Option.some.inj ei1
  have hw := fun d (hd : d ∈ tables_1) => atoms_spec (ws := Jvm.Cond.code x code maxLocals ret :: tables_1) hat d (List.mem_cons_of_mem _ hd)
  have hfit : Fit s := fun {y c} hc i hi => by
    obtain ⟨ha, rfl⟩ := Array.getElem?_eq_some_iff.mp hc
    have q := List.all_eq_true.mp ((Array.all_eq_true_iff_forall_mem.mp hF) _ (Array.getElem_mem ha)) i (List.mem_range.mpr hi)
    simpa [Array.getElem?_eq_getElem hi] using q
  obtain ⟨n0, hn⟩ := and_e hn
  obtain ⟨a_VALUES, v_VALUES⟩ := arr_v n0
  have S_VALUES := Sta.start v_VALUES (Or.inr ⟨(hw _ (List.mem_of_getElem? (i := 3) rfl)), (hw _ (List.mem_of_getElem? (i := 9) rfl))⟩)
  obtain ⟨cl_VALUES, A_VALUES⟩ := Arr.start v_VALUES n0
  have G_VALUES := FitC.start hfit A_VALUES
  obtain ⟨n1, hn⟩ := and_e hn
  have E_VALUES := Exa.start v_VALUES n1
  obtain ⟨n2, hn⟩ := and_e hn
  have Z_VALUES : cl_VALUES.slots.size = 10 := own_len v_VALUES A_VALUES n2
  obtain ⟨n3, hn⟩ := and_e hn
  obtain ⟨a_BIND, v_BIND⟩ := exa_v n3
  have S_BIND := Sta.start v_BIND (Or.inr ⟨(hw _ (List.mem_of_getElem? (i := 3) rfl)), (hw _ (List.mem_of_getElem? (i := 17) rfl))⟩)
  have E_BIND := Exa.start v_BIND n3
  obtain ⟨n4, hn⟩ := and_e hn
  have V_VALUES_0 := own_elemR v_VALUES A_VALUES v_BIND n4
  obtain ⟨n5, hn⟩ := and_e hn
  obtain ⟨a_UNBIND, v_UNBIND⟩ := exa_v n5
  have S_UNBIND := Sta.start v_UNBIND (Or.inr ⟨(hw _ (List.mem_of_getElem? (i := 3) rfl)), (hw _ (List.mem_of_getElem? (i := 18) rfl))⟩)
  have E_UNBIND := Exa.start v_UNBIND n5
  obtain ⟨n6, hn⟩ := and_e hn
  have V_VALUES_1 := own_elemR v_VALUES A_VALUES v_UNBIND n6
  obtain ⟨n7, hn⟩ := and_e hn
  obtain ⟨a_SEARCH, v_SEARCH⟩ := exa_v n7
  have S_SEARCH := Sta.start v_SEARCH (Or.inr ⟨(hw _ (List.mem_of_getElem? (i := 3) rfl)), (hw _ (List.mem_of_getElem? (i := 19) rfl))⟩)
  have E_SEARCH := Exa.start v_SEARCH n7
  obtain ⟨n8, hn⟩ := and_e hn
  have V_VALUES_2 := own_elemR v_VALUES A_VALUES v_SEARCH n8
  obtain ⟨n9, hn⟩ := and_e hn
  obtain ⟨a_MODIFY, v_MODIFY⟩ := exa_v n9
  have S_MODIFY := Sta.start v_MODIFY (Or.inr ⟨(hw _ (List.mem_of_getElem? (i := 3) rfl)), (hw _ (List.mem_of_getElem? (i := 20) rfl))⟩)
  have E_MODIFY := Exa.start v_MODIFY n9
  obtain ⟨n10, hn⟩ := and_e hn
  have V_VALUES_3 := own_elemR v_VALUES A_VALUES v_MODIFY n10
  obtain ⟨n11, hn⟩ := and_e hn
  obtain ⟨a_ADD, v_ADD⟩ := exa_v n11
  have S_ADD := Sta.start v_ADD (Or.inr ⟨(hw _ (List.mem_of_getElem? (i := 3) rfl)), (hw _ (List.mem_of_getElem? (i := 21) rfl))⟩)
  have E_ADD := Exa.start v_ADD n11
  obtain ⟨n12, hn⟩ := and_e hn
  have V_VALUES_4 := own_elemR v_VALUES A_VALUES v_ADD n12
  obtain ⟨n13, hn⟩ := and_e hn
  obtain ⟨a_DELETE, v_DELETE⟩ := exa_v n13
  have S_DELETE := Sta.start v_DELETE (Or.inr ⟨(hw _ (List.mem_of_getElem? (i := 3) rfl)), (hw _ (List.mem_of_getElem? (i := 22) rfl))⟩)
  have E_DELETE := Exa.start v_DELETE n13
  obtain ⟨n14, hn⟩ := and_e hn
  have V_VALUES_5 := own_elemR v_VALUES A_VALUES v_DELETE n14
  obtain ⟨n15, hn⟩ := and_e hn
  obtain ⟨a_MODIFY_DN, v_MODIFY_DN⟩ := exa_v n15
  have S_MODIFY_DN := Sta.start v_MODIFY_DN (Or.inr ⟨(hw _ (List.mem_of_getElem? (i := 3) rfl)), (hw _ (List.mem_of_getElem? (i := 23) rfl))⟩)
  have E_MODIFY_DN := Exa.start v_MODIFY_DN n15
  obtain ⟨n16, hn⟩ := and_e hn
  have V_VALUES_6 := own_elemR v_VALUES A_VALUES v_MODIFY_DN n16
  obtain ⟨n17, hn⟩ := and_e hn
  obtain ⟨a_COMPARE, v_COMPARE⟩ := exa_v n17
  have S_COMPARE := Sta.start v_COMPARE (Or.inr ⟨(hw _ (List.mem_of_getElem? (i := 3) rfl)), (hw _ (List.mem_of_getElem? (i := 24) rfl))⟩)
  have E_COMPARE := Exa.start v_COMPARE n17
  obtain ⟨n18, hn⟩ := and_e hn
  have V_VALUES_7 := own_elemR v_VALUES A_VALUES v_COMPARE n18
  obtain ⟨n19, hn⟩ := and_e hn
  obtain ⟨a_ABANDON, v_ABANDON⟩ := exa_v n19
  have S_ABANDON := Sta.start v_ABANDON (Or.inr ⟨(hw _ (List.mem_of_getElem? (i := 3) rfl)), (hw _ (List.mem_of_getElem? (i := 25) rfl))⟩)
  have E_ABANDON := Exa.start v_ABANDON n19
  obtain ⟨n20, hn⟩ := and_e hn
  have V_VALUES_8 := own_elemR v_VALUES A_VALUES v_ABANDON n20
  obtain ⟨n21, hn⟩ := and_e hn
  obtain ⟨a_EXTENDED, v_EXTENDED⟩ := exa_v n21
  have S_EXTENDED := Sta.start v_EXTENDED (Or.inr ⟨(hw _ (List.mem_of_getElem? (i := 3) rfl)), (hw _ (List.mem_of_getElem? (i := 26) rfl))⟩)
  have E_EXTENDED := Exa.start v_EXTENDED n21
  obtain ⟨n22, hn⟩ := and_e hn
  have V_VALUES_9 := own_elemR v_VALUES A_VALUES v_EXTENDED n22
  obtain ⟨n23, hn⟩ := and_e hn
  have F_BIND_requestTag := own_fld v_BIND n23
  obtain ⟨n24, hn⟩ := and_e hn
  have F_UNBIND_requestTag := own_fld v_UNBIND n24
  obtain ⟨n25, hn⟩ := and_e hn
  have F_SEARCH_requestTag := own_fld v_SEARCH n25
  obtain ⟨n26, hn⟩ := and_e hn
  have F_MODIFY_requestTag := own_fld v_MODIFY n26
  obtain ⟨n27, hn⟩ := and_e hn
  have F_ADD_requestTag := own_fld v_ADD n27
  obtain ⟨n28, hn⟩ := and_e hn
  have F_DELETE_requestTag := own_fld v_DELETE n28
  obtain ⟨n29, hn⟩ := and_e hn
  have F_MODIFY_DN_requestTag := own_fld v_MODIFY_DN n29
  obtain ⟨n30, hn⟩ := and_e hn
  have F_COMPARE_requestTag := own_fld v_COMPARE n30
  obtain ⟨n31, hn⟩ := and_e hn
  have F_ABANDON_requestTag := own_fld v_ABANDON n31
  have F_EXTENDED_requestTag := own_fld v_EXTENDED hn
  have B : own_B s s.heap a_VALUES a_BIND a_UNBIND a_SEARCH a_MODIFY a_ADD a_DELETE a_MODIFY_DN a_COMPARE a_ABANDON a_EXTENDED cl_VALUES := ⟨S_VALUES, A_VALUES, G_VALUES, E_VALUES, Z_VALUES, S_BIND, E_BIND, V_VALUES_0, S_UNBIND, E_UNBIND, V_VALUES_1, S_SEARCH, E_SEARCH, V_VALUES_2, S_MODIFY, E_MODIFY, V_VALUES_3, S_ADD, E_ADD, V_VALUES_4, S_DELETE, E_DELETE, V_VALUES_5, S_MODIFY_DN, E_MODIFY_DN, V_VALUES_6, S_COMPARE, E_COMPARE, V_VALUES_7, S_ABANDON, E_ABANDON, V_VALUES_8, S_EXTENDED, E_EXTENDED, V_VALUES_9, F_BIND_requestTag, F_UNBIND_requestTag, F_SEARCH_requestTag, F_MODIFY_requestTag, F_ADD_requestTag, F_DELETE_requestTag, F_MODIFY_DN_requestTag, F_COMPARE_requestTag, F_ABANDON_requestTag, F_EXTENDED_requestTag⟩
  obtain ⟨n, o, h1, h2, h3, _, L, rfl, ⟨rfl, N⟩, hq⟩ := rm0 l s _ hw i0 i1 a_VALUES a_BIND a_UNBIND a_SEARCH a_MODIFY a_ADD a_DELETE a_MODIFY_DN a_COMPARE a_ABANDON a_EXTENDED cl_VALUES s.heap s.heap.size (Nat.le_refl _) B tables_1 p e ha hc hk s m _ below hf ((Spec.applies_iff_loose hf).mp happ).1 ⟨rfl, State.Warmed39.refl s, rfl⟩ trivial
  refine ⟨n, _, h1, h2, h3, hpost _ _ _ _ _ _ ⟨Jvm.Cond.after_iff.mpr rfl, Jvm.Cond.after_iff.mpr (eq_i res_at (Term.int_eval (1)) rfl), trivial⟩ ⟨hq.1, hq.2.1, (hq.2.2.sift fun y hy => Or.inr (N y hy)).mono (by decide) (by decide)⟩⟩
theorem main_1_1 : Claimed_1_1 := comes_1 fun _ _ _ _ _ _ h hF => ⟨h.1, hF⟩
theorem main_1_2 : Claimed_1_2 := comes_1 fun _ _ _ _ _ _ h hF => ⟨h.2.1, hF⟩
end Jvm.Pilot.@@N@@
namespace Jvm.Pilot.@@N@@
open Jvm Jvm.ClassFile Sem Op Lib Jvm.Free Jvm.Stand Jvm.Pilot.@@N@@.Jvm.D
/-! MADE BY PROGRAM (witnessworld.py) out of the Statement's table words and the real class files: 13 classes; the members and pool entries that the words name. The judged class is class 1, her method 1. -/
namespace start1
open Jvm.ClassFile
def u (s : String) : CpInfo := .utf8 (stringToUtf16 s)
/-- a pool by its gaps: so many unusable entries, then the entry; so many at the end -/
def gap : Nat → List CpInfo → List CpInfo
  | 0, r => r
  | n + 1, r => .unusable :: gap n r
def poolList (es : List (Nat × CpInfo)) (last : Nat) : List CpInfo := es.foldr (fun e r => gap e.1 (e.2 :: r)) (gap last [])
def pool (es : List (Nat × CpInfo)) (last : Nat) : Array CpInfo := ⟨poolList es last⟩
def fileOf (pool : Array CpInfo) (this : Nat) (attrs : Array Attribute := #[]) (ms : Array MethodInfo := #[]) (fl : Nat := 33) (sup : Nat := 0) (ifs : Array Nat := #[]) (fds : Array FieldInfo := #[]) : ClassFile where
  minorVersion := 0
  majorVersion := 65
  constantPool := pool
  accessFlags := fl
  thisClass := this
  superClass := sup
  interfaces := ifs
  fields := fds
  methods := ms
  attributes := attrs
def plain (name : String) (sup : Option ClassId) : Class where
  name := name
  kind := .ordinary
  loader := none
  accessFlags := 33
  super := sup
  interfaces := #[]
  cf := none
  fields := #[]
  methods := #[]
  instanceTypes := #[]
  staticTypes := #[]
  resolved := #[]
  callSites := []
  init := .initialized
  statics := none
  mirror := none

def pool0 : Array CpInfo := pool [(5, u "<init>"), (0, u "()V"), (1, .class_ 10), (1, u "java/lang/Object"), (85, u "clone"), (0, u "()Ljava/lang/Object;")] 26

def k0m0 : Method := { name := "<init>", desc := "()V", sig := { parameters := [], returnType := none }, accessFlags := 1, code := none }
def k0m1 : Method := { name := "clone", desc := "()Ljava/lang/Object;", sig := { parameters := [], returnType := some (.object "java/lang/Object") }, accessFlags := 260, code := none }
/-- java/lang/Object -/
def k0 : Class := { plain "java/lang/Object" none with
  accessFlags := 33
  interfaces := #[]
  cf := some (fileOf pool0 8 #[] #[{ accessFlags := 1, nameIndex := 5, descriptorIndex := 6, attributes := #[] }, { accessFlags := 260, nameIndex := 96, descriptorIndex := 97, attributes := #[] }] 33 0 #[] #[])
  fields := #[]
  methods := #[k0m0, k0m1]
  instanceTypes := #[]
  staticTypes := #[]
  resolved := Array.replicate 124 none
  statics := none }

def pool1 : Array CpInfo := pool [(2, .class_ 4), (1, u "java/lang/Object"), (0, u "<init>"), (0, u "()V"), (0, .methodref 8 9), (0, .class_ 10), (0, .nameAndType 11 12), (0, u "com/example/canonry/canonry/Operation"), (0, u "ofRequestTag"), (0, u "(I)Lcom/example/canonry/canonry/Operation;"), (0, .methodref 14 15), (0, .class_ 16), (0, .nameAndType 17 12), (0, u "com/example/canonry/canonry/OperationOfRequestTagPinLaw"), (0, u "expected"), (0, .fieldref 8 19), (0, .nameAndType 20 21), (0, u "BIND"), (0, u "Lcom/example/canonry/canonry/Operation;"), (0, .fieldref 8 23), (0, .nameAndType 24 21), (0, u "UNBIND"), (0, .fieldref 8 26), (0, .nameAndType 27 21), (0, u "SEARCH"), (0, .fieldref 8 29), (0, .nameAndType 30 21), (0, u "MODIFY"), (0, .fieldref 8 32), (0, .nameAndType 33 21), (0, u "ADD"), (0, .fieldref 8 35), (0, .nameAndType 36 21), (0, u "DELETE"), (0, .fieldref 8 38), (0, .nameAndType 39 21), (0, u "MODIFY_DN"), (0, .fieldref 8 41), (0, .nameAndType 42 21), (0, u "COMPARE"), (0, .fieldref 8 44), (0, .nameAndType 45 21), (0, u "ABANDON"), (0, .fieldref 8 47), (0, .nameAndType 48 21), (0, u "EXTENDED"), (2, u "law"), (0, u "(II)Z")] 3

def k1m0 : Method := { name := "<init>", desc := "()V", sig := { parameters := [], returnType := none }, accessFlags := 1, code := none }
def k1c1 : Code := { maxStack := 4, maxLocals := 7, code := code, exceptionTable := #[], attributes := #[] }
def k1m1 : Method := { name := "law", desc := "(II)Z", sig := { parameters := [.int, .int], returnType := some .boolean }, accessFlags := 9, code := some k1c1 }
def k1c2 : Code := { maxStack := 2, maxLocals := 1, code := method_3_code, exceptionTable := #[], attributes := #[] }
def k1m2 : Method := { name := "expected", desc := "(I)Lcom/example/canonry/canonry/Operation;", sig := { parameters := [.int], returnType := some (.object "com/example/canonry/canonry/Operation") }, accessFlags := 10, code := some k1c2 }
/-- com/example/canonry/canonry/OperationOfRequestTagPinLaw -/
def k1 : Class := { plain "com/example/canonry/canonry/OperationOfRequestTagPinLaw" (some 0) with
  accessFlags := 49
  interfaces := #[]
  cf := some (fileOf pool1 14 #[] #[{ accessFlags := 1, nameIndex := 5, descriptorIndex := 6, attributes := #[] }, { accessFlags := 9, nameIndex := 51, descriptorIndex := 52, attributes := #[] }, { accessFlags := 10, nameIndex := 17, descriptorIndex := 12, attributes := #[] }] 49 2 #[] #[])
  fields := #[]
  methods := #[k1m0, k1m1, k1m2]
  instanceTypes := #[]
  staticTypes := #[]
  resolved := Array.replicate 56 none
  statics := none }

def pool2 : Array CpInfo := pool [(1, .class_ 2), (0, u "java/lang/constant/Constable"), (0, .class_ 4), (0, u "java/lang/Object")] 6

/-- java/lang/constant/Constable -/
def k2 : Class := { plain "java/lang/constant/Constable" (some 0) with
  accessFlags := 1537
  interfaces := #[]
  cf := some (fileOf pool2 1 #[] #[] 1537 3 #[] #[])
  fields := #[]
  methods := #[]
  instanceTypes := #[]
  staticTypes := #[]
  resolved := Array.replicate 11 none
  statics := none }

def pool3 : Array CpInfo := pool [(1, .class_ 2), (0, u "java/lang/Comparable"), (0, .class_ 4), (0, u "java/lang/Object")] 7

/-- java/lang/Comparable -/
def k3 : Class := { plain "java/lang/Comparable" (some 0) with
  accessFlags := 1537
  interfaces := #[]
  cf := some (fileOf pool3 1 #[] #[] 1537 3 #[] #[])
  fields := #[]
  methods := #[]
  instanceTypes := #[]
  staticTypes := #[]
  resolved := Array.replicate 12 none
  statics := none }

def pool4 : Array CpInfo := pool [(1, .class_ 2), (0, u "java/io/Serializable"), (0, .class_ 4), (0, u "java/lang/Object")] 2

/-- java/io/Serializable -/
def k4 : Class := { plain "java/io/Serializable" (some 0) with
  accessFlags := 1537
  interfaces := #[]
  cf := some (fileOf pool4 1 #[] #[] 1537 3 #[] #[])
  fields := #[]
  methods := #[]
  instanceTypes := #[]
  staticTypes := #[]
  resolved := Array.replicate 7 none
  statics := none }

def pool5 : Array CpInfo := pool [(2, .class_ 4), (1, u "java/lang/Enum"), (0, u "name"), (0, u "Ljava/lang/String;"), (2, u "ordinal"), (0, u "I"), (1, .class_ 14), (1, u "java/lang/Object"), (4, u "hash"), (86, .class_ 108), (1, u "java/lang/Enum$EnumDesc"), (2, .class_ 112), (0, u "java/lang/constant/Constable"), (0, .class_ 114), (0, u "java/lang/Comparable"), (0, .class_ 116), (0, u "java/io/Serializable")] 87

/-- java/lang/Enum -/
def k5 : Class := { plain "java/lang/Enum" (some 0) with
  accessFlags := 1057
  interfaces := #[2, 3, 4]
  cf := some (fileOf pool5 2 #[.nestMembers #[106]] #[] 1057 12 #[111, 113, 115] #[{ accessFlags := 18, nameIndex := 5, descriptorIndex := 6, attributes := #[] }, { accessFlags := 18, nameIndex := 9, descriptorIndex := 10, attributes := #[] }, { accessFlags := 2, nameIndex := 19, descriptorIndex := 10, attributes := #[] }])
  fields := #[{ name := "name", type := (.object "java/lang/String"), accessFlags := 18, slot := 0, constantValue := 0 }, { name := "ordinal", type := .int, accessFlags := 18, slot := 1, constantValue := 0 }, { name := "hash", type := .int, accessFlags := 2, slot := 2, constantValue := 0 }]
  methods := #[]
  instanceTypes := #[(.object "java/lang/String"), .int, .int]
  staticTypes := #[]
  resolved := Array.replicate 204 none
  statics := none }

def pool6 : Array CpInfo := pool [(1, .class_ 2), (0, u "com/example/canonry/canonry/Operation"), (2, u "BIND"), (0, u "Lcom/example/canonry/canonry/Operation;"), (2, u "UNBIND"), (2, u "SEARCH"), (2, u "MODIFY"), (2, u "ADD"), (2, u "DELETE"), (2, u "MODIFY_DN"), (2, u "COMPARE"), (2, u "ABANDON"), (2, u "EXTENDED"), (0, .fieldref 1 35), (0, .nameAndType 36 37), (0, u "$VALUES"), (0, u "[Lcom/example/canonry/canonry/Operation;"), (0, .methodref 39 40), (0, .class_ 37), (0, .nameAndType 41 42), (0, u "clone"), (0, u "()Ljava/lang/Object;"), (1, .class_ 46), (1, u "java/lang/Enum"), (6, .fieldref 1 54), (0, .nameAndType 55 56), (0, u "requestTag"), (0, u "I"), (2, u "responseTag"), (0, .methodref 1 61), (0, .nameAndType 62 63), (0, u "values"), (0, u "()[Lcom/example/canonry/canonry/Operation;"), (25, u "ofRequestTag"), (0, u "(I)Lcom/example/canonry/canonry/Operation;")] 5

def k6c0 : Code := { maxStack := 1, maxLocals := 0, code := prog_6_method_1_code, exceptionTable := #[], attributes := #[] }
def k6m0 : Method := { name := "values", desc := "()[Lcom/example/canonry/canonry/Operation;", sig := { parameters := [], returnType := some (.array (.object "com/example/canonry/canonry/Operation")) }, accessFlags := 9, code := some k6c0 }
def k6c1 : Code := { maxStack := 2, maxLocals := 5, code := prog_6_method_5_code, exceptionTable := #[], attributes := #[] }
def k6m1 : Method := { name := "ofRequestTag", desc := "(I)Lcom/example/canonry/canonry/Operation;", sig := { parameters := [.int], returnType := some (.object "com/example/canonry/canonry/Operation") }, accessFlags := 8, code := some k6c1 }
/-- com/example/canonry/canonry/Operation -/
def k6 : Class := { plain "com/example/canonry/canonry/Operation" (some 5) with
  accessFlags := 16432
  interfaces := #[]
  cf := some (fileOf pool6 1 #[] #[{ accessFlags := 9, nameIndex := 62, descriptorIndex := 63, attributes := #[] }, { accessFlags := 8, nameIndex := 89, descriptorIndex := 90, attributes := #[] }] 16432 44 #[] #[{ accessFlags := 16409, nameIndex := 5, descriptorIndex := 6, attributes := #[] }, { accessFlags := 16409, nameIndex := 9, descriptorIndex := 6, attributes := #[] }, { accessFlags := 16409, nameIndex := 12, descriptorIndex := 6, attributes := #[] }, { accessFlags := 16409, nameIndex := 15, descriptorIndex := 6, attributes := #[] }, { accessFlags := 16409, nameIndex := 18, descriptorIndex := 6, attributes := #[] }, { accessFlags := 16409, nameIndex := 21, descriptorIndex := 6, attributes := #[] }, { accessFlags := 16409, nameIndex := 24, descriptorIndex := 6, attributes := #[] }, { accessFlags := 16409, nameIndex := 27, descriptorIndex := 6, attributes := #[] }, { accessFlags := 16409, nameIndex := 30, descriptorIndex := 6, attributes := #[] }, { accessFlags := 16409, nameIndex := 33, descriptorIndex := 6, attributes := #[] }, { accessFlags := 16, nameIndex := 55, descriptorIndex := 56, attributes := #[] }, { accessFlags := 16, nameIndex := 59, descriptorIndex := 56, attributes := #[] }, { accessFlags := 4122, nameIndex := 36, descriptorIndex := 37, attributes := #[] }])
  fields := #[{ name := "BIND", type := (.object "com/example/canonry/canonry/Operation"), accessFlags := 16409, slot := 0, constantValue := 0 }, { name := "UNBIND", type := (.object "com/example/canonry/canonry/Operation"), accessFlags := 16409, slot := 1, constantValue := 0 }, { name := "SEARCH", type := (.object "com/example/canonry/canonry/Operation"), accessFlags := 16409, slot := 2, constantValue := 0 }, { name := "MODIFY", type := (.object "com/example/canonry/canonry/Operation"), accessFlags := 16409, slot := 3, constantValue := 0 }, { name := "ADD", type := (.object "com/example/canonry/canonry/Operation"), accessFlags := 16409, slot := 4, constantValue := 0 }, { name := "DELETE", type := (.object "com/example/canonry/canonry/Operation"), accessFlags := 16409, slot := 5, constantValue := 0 }, { name := "MODIFY_DN", type := (.object "com/example/canonry/canonry/Operation"), accessFlags := 16409, slot := 6, constantValue := 0 }, { name := "COMPARE", type := (.object "com/example/canonry/canonry/Operation"), accessFlags := 16409, slot := 7, constantValue := 0 }, { name := "ABANDON", type := (.object "com/example/canonry/canonry/Operation"), accessFlags := 16409, slot := 8, constantValue := 0 }, { name := "EXTENDED", type := (.object "com/example/canonry/canonry/Operation"), accessFlags := 16409, slot := 9, constantValue := 0 }, { name := "requestTag", type := .int, accessFlags := 16, slot := 3, constantValue := 0 }, { name := "responseTag", type := .int, accessFlags := 16, slot := 4, constantValue := 0 }, { name := "$VALUES", type := (.array (.object "com/example/canonry/canonry/Operation")), accessFlags := 4122, slot := 10, constantValue := 0 }]
  methods := #[k6m0, k6m1]
  instanceTypes := #[(.object "java/lang/String"), .int, .int, .int, .int]
  staticTypes := #[(.object "com/example/canonry/canonry/Operation"), (.object "com/example/canonry/canonry/Operation"), (.object "com/example/canonry/canonry/Operation"), (.object "com/example/canonry/canonry/Operation"), (.object "com/example/canonry/canonry/Operation"), (.object "com/example/canonry/canonry/Operation"), (.object "com/example/canonry/canonry/Operation"), (.object "com/example/canonry/canonry/Operation"), (.object "com/example/canonry/canonry/Operation"), (.object "com/example/canonry/canonry/Operation"), (.array (.object "com/example/canonry/canonry/Operation"))]
  resolved := Array.replicate 96 none
  statics := some 0 }

def pool7 : Array CpInfo := pool [(1, .class_ 2), (0, u "java/lang/Cloneable"), (0, .class_ 4), (0, u "java/lang/Object")] 2

/-- java/lang/Cloneable -/
def k7 : Class := { plain "java/lang/Cloneable" (some 0) with
  accessFlags := 1537
  interfaces := #[]
  cf := some (fileOf pool7 1 #[] #[] 1537 3 #[] #[])
  fields := #[]
  methods := #[]
  instanceTypes := #[]
  staticTypes := #[]
  resolved := Array.replicate 7 none
  statics := none }

/-- the primitive byte -/
def k8 : Class := { plain "byte" none with kind := .primitive 'B', accessFlags := 0x411 }
/-- [B -/
def k9 : Class := { plain "[B" (some 0) with kind := .array 8 .byte, interfaces := #[7, 4], accessFlags := 1041 }

/-- the primitive int -/
def k10 : Class := { plain "int" none with kind := .primitive 'I', accessFlags := 0x411 }
/-- [I -/
def k11 : Class := { plain "[I" (some 0) with kind := .array 10 .int, interfaces := #[7, 4], accessFlags := 1041 }

/-- [Lcom/example/canonry/canonry/Operation; -/
def k12 : Class := { plain "[Lcom/example/canonry/canonry/Operation;" (some 0) with kind := .array 6 (.object "com/example/canonry/canonry/Operation"), interfaces := #[7, 4], accessFlags := 1041 }

def heap : Heap := #[{ cls := 6, slots := #[.ref 2, .ref 3, .ref 4, .ref 5, .ref 6, .ref 7, .ref 8, .ref 9, .ref 10, .ref 11, .ref 1], vm := .statics 6 },
  { cls := 12, slots := #[.ref 2, .ref 3, .ref 4, .ref 5, .ref 6, .ref 7, .ref 8, .ref 9, .ref 10, .ref 11], vm := .none },
  { cls := 6, slots := #[.null, .int 0, .int 0, .int 96, .int 0], vm := .none },
  { cls := 6, slots := #[.null, .int 0, .int 0, .int 66, .int 0], vm := .none },
  { cls := 6, slots := #[.null, .int 0, .int 0, .int 99, .int 0], vm := .none },
  { cls := 6, slots := #[.null, .int 0, .int 0, .int 102, .int 0], vm := .none },
  { cls := 6, slots := #[.null, .int 0, .int 0, .int 104, .int 0], vm := .none },
  { cls := 6, slots := #[.null, .int 0, .int 0, .int 74, .int 0], vm := .none },
  { cls := 6, slots := #[.null, .int 0, .int 0, .int 108, .int 0], vm := .none },
  { cls := 6, slots := #[.null, .int 0, .int 0, .int 110, .int 0], vm := .none },
  { cls := 6, slots := #[.null, .int 0, .int 0, .int 80, .int 0], vm := .none },
  { cls := 6, slots := #[.null, .int 0, .int 0, .int 119, .int 0], vm := .none }]
def classes : Array Class := #[k0, k1, k2, k3, k4, k5, k6, k7, k8, k9, k10, k11, k12]
def interned : List (Array UInt16 × Addr) := []
def slotsUsed : Nat := 71
def theMethod : MethodId := ⟨1, 1⟩
def args0 : Array Value := #[.int 96, .int 3]
def aboutOver (below : List Frame) : State where
  vm := { classes := classes, interned := interned.toArray }
  heap := heap
  slotsUsed := slotsUsed
  threads := #[{ frames := .invoking theMethod args0 :: below }]
def below0 : List Frame := [.native { method := ⟨0, 0⟩, args := #[] }]
def about1 : State := aboutOver below0
def p0 : Program := .bare "" "" ""
def e0 : Env := launch0.env 0 0 0
theorem w_frames : about1.frames = Frame.invoking theMethod args0 :: below0 := rfl
set_option maxRecDepth 65536 in
theorem w_args : argsFit about1.vm theMethod args0 = true := by decide +kernel
set_option maxRecDepth 65536 in
theorem w_heap : heapFits about1 = true := by decide +kernel
set_option maxRecDepth 65536 in
theorem w_runnable : about1.curStatus? = some .runnable := by decide +kernel
set_option maxRecDepth 65536 in
theorem w_alone : about1.alone = true := by decide +kernel
set_option maxRecDepth 65536 in
theorem w_named : about1.methodNamed? x = some theMethod := by decide +kernel
set_option maxRecDepth 65536 in
theorem w_hears : about1.hears theMethod below0 = true := by decide +kernel
set_option maxRecDepth 65536 in
theorem w_ripe : about1.ripe theMethod args0 below0 = true := by decide +kernel
theorem w_running : about1.status = .running := rfl
set_option maxRecDepth 65536 in
theorem w_room : about1.hasRoom e0.platform room_1 = true :=
  launch0.hasRoom_least _ room_1 (by decide +kernel) (by decide +kernel) (by decide +kernel) (by decide +kernel) (by decide +kernel) (by decide +kernel)
theorem allAtoms_all (ts : List Jvm.Cond) (a : Array Jvm.Value) (st : Jvm.State) : (allAtoms ts).before a st = ts.all (fun c => c.before a st) := by
  induction ts with
  | nil => rfl
  | cons c t ih =>
    show (Jvm.Cond.and c (allAtoms t)).before a st = _
    rw [Jvm.Cond.before_and, ih, List.all_cons]
def words1 : List Jvm.Cond := Jvm.Cond.code x code maxLocals ret :: tables_1
/-- a 'code' word, met by the world's own term for the bytes: nothing is compared byte by byte -/
theorem code_word {y : MethodName} {bytes : ByteArray} {mx : Nat} {rt : Option FieldType} {a : Array Value} {s : State} {m : MethodId} {meth : Method} {c : Code} (h1 : s.methodNamed? y = some m) (h2 : s.vm.method? m = some meth) (h3 : meth.code = some c) (h4 : c.code = bytes)
    (h5 : (c.maxLocals == mx && c.exceptionTable.isEmpty && decide (c.maxStack ≤ mostOperands) && decide (meth.sig.returnType = rt) && !meth.locks && decide (parseMethodDescriptor y.desc = some meth.sig)) = true) : (Jvm.Cond.code y bytes mx rt).before a s = true := by
  simp only [Bool.and_eq_true, beq_iff_eq, Bool.not_eq_true', decide_eq_true_eq] at h5
  obtain ⟨⟨⟨⟨⟨g1, g2⟩, g3⟩, g4⟩, g5⟩, g6⟩ := h5
  simp [Cond.before, Cond.holds, Cond.value, h1, h2, h3, h4, g1, g2, g3, g4, g5, g6]
def isCode : Jvm.Cond → Bool
  | .code _ _ _ _ => true
  | _ => false
theorem all_split {L : List Jvm.Cond} {P : Jvm.Cond → Bool} (h1 : L.all (fun c => isCode c || P c) = true) (h2 : ∀ c ∈ L.filter isCode, P c = true) : L.all P = true := by
  refine List.all_eq_true.mpr fun c hc => ?_
  have h := List.all_eq_true.mp h1 c hc
  rcases Bool.eq_false_or_eq_true (isCode c) with hi | hi
  · exact h2 c (List.mem_filter.mpr ⟨hc, hi⟩)
  · simpa [hi] using h
set_option maxRecDepth 65536 in
theorem w_c0 : (Jvm.Cond.code x code maxLocals ret).before args0 about1 = true := code_word (m := ⟨1, 1⟩) (meth := k1m1) (c := k1c1) (by decide +kernel) rfl rfl rfl (by decide +kernel)
set_option maxRecDepth 65536 in
theorem w_c1 : (Jvm.Cond.code ({ cls := "com/example/canonry/canonry/Operation", name := "ofRequestTag", desc := "(I)Lcom/example/canonry/canonry/Operation;" } : Jvm.MethodName) prog_6_method_5_code (5 : Nat) (Option.some (Jvm.ClassFile.FieldType.object "com/example/canonry/canonry/Operation"))).before args0 about1 = true := code_word (m := ⟨6, 1⟩) (meth := k6m1) (c := k6c1) (by decide +kernel) rfl rfl rfl (by decide +kernel)
set_option maxRecDepth 65536 in
theorem w_c2 : (Jvm.Cond.code ({ cls := "com/example/canonry/canonry/Operation", name := "values", desc := "()[Lcom/example/canonry/canonry/Operation;" } : Jvm.MethodName) prog_6_method_1_code (0 : Nat) (Option.some (Jvm.ClassFile.FieldType.array (Jvm.ClassFile.FieldType.object "com/example/canonry/canonry/Operation")))).before args0 about1 = true := code_word (m := ⟨6, 0⟩) (meth := k6m0) (c := k6c0) (by decide +kernel) rfl rfl rfl (by decide +kernel)
set_option maxRecDepth 65536 in
theorem w_c3 : (Jvm.Cond.code ({ cls := "com/example/canonry/canonry/OperationOfRequestTagPinLaw", name := "expected", desc := "(I)Lcom/example/canonry/canonry/Operation;" } : Jvm.MethodName) method_3_code (1 : Nat) (Option.some (Jvm.ClassFile.FieldType.object "com/example/canonry/canonry/Operation"))).before args0 about1 = true := code_word (m := ⟨1, 2⟩) (meth := k1m2) (c := k1c2) (by decide +kernel) rfl rfl rfl (by decide +kernel)
def codes1 : List Jvm.Cond := [Jvm.Cond.code x code maxLocals ret, Jvm.Cond.code ({ cls := "com/example/canonry/canonry/Operation", name := "ofRequestTag", desc := "(I)Lcom/example/canonry/canonry/Operation;" } : Jvm.MethodName) prog_6_method_5_code (5 : Nat) (Option.some (Jvm.ClassFile.FieldType.object "com/example/canonry/canonry/Operation")), Jvm.Cond.code ({ cls := "com/example/canonry/canonry/Operation", name := "values", desc := "()[Lcom/example/canonry/canonry/Operation;" } : Jvm.MethodName) prog_6_method_1_code (0 : Nat) (Option.some (Jvm.ClassFile.FieldType.array (Jvm.ClassFile.FieldType.object "com/example/canonry/canonry/Operation"))), Jvm.Cond.code ({ cls := "com/example/canonry/canonry/OperationOfRequestTagPinLaw", name := "expected", desc := "(I)Lcom/example/canonry/canonry/Operation;" } : Jvm.MethodName) method_3_code (1 : Nat) (Option.some (Jvm.ClassFile.FieldType.object "com/example/canonry/canonry/Operation"))]
set_option maxRecDepth 65536 in
theorem codes_eq : words1.filter isCode = codes1 := rfl
theorem w_codes : ∀ c ∈ words1.filter isCode, c.before args0 about1 = true := by
  rw [codes_eq]
  intro c hc
  simp only [codes1, List.mem_cons, List.not_mem_nil, or_false] at hc
  rcases hc with rfl | rfl | rfl | rfl
  · exact w_c0
  · exact w_c1
  · exact w_c2
  · exact w_c3
set_option maxRecDepth 65536 in
theorem w_t1 : (words1.take 24).all (fun c => isCode c || c.before args0 about1) = true := by decide +kernel
set_option maxRecDepth 65536 in
theorem w_t2 : (words1.drop 24).all (fun c => isCode c || c.before args0 about1) = true := by decide +kernel
theorem w_tables : (allAtoms (Jvm.Cond.code x code maxLocals ret :: tables_1)).before args0 about1 = true := by
  rw [allAtoms_all]
  show words1.all (fun c => c.before args0 about1) = true
  refine all_split ?_ w_codes
  rw [← List.take_append_drop 24 words1, List.all_append, w_t1, w_t2]
  rfl
set_option maxRecDepth 65536 in
theorem w_case : (Jvm.Cond.and given_1 narrow_1).before args0 about1 = true := by decide +kernel
theorem w_applies : (headSpec (Jvm.Cond.code x code maxLocals ret :: tables_1) room_1).applies x e0.platform about1 = true :=
  (Spec.applies_iff w_frames).mpr ⟨w_running, w_runnable, w_alone, w_named, w_hears, w_ripe, w_room, w_tables⟩
theorem atStart : AtStart classFile x code maxLocals ret World_1 tables_1 room_1 Calls_1 rest_1 Pre_1 launch0 p0 e0 about1 theMethod args0 below0 :=
  ⟨lists_1, trivial, launch0.admits_env _ _ _, launch0.least_env, fairChoices_fair.cas, fairChoices_fair.clock, w_frames, w_args, w_heap, w_applies, trivial, trivial, w_case⟩
end start1
theorem witness_1 : WitnessClaimed_1 := ⟨start1.p0, start1.e0, start1.about1, start1.theMethod, start1.args0, start1.below0, start1.atStart⟩
end Jvm.Pilot.@@N@@
