import JvmDerived
import JvmDerived.Pilot.@@N@@Statement
import JvmDerived.Pilot.@@N@@Code
set_option linter.unusedVariables false
set_option linter.unusedSimpArgs false
@@BLOCK:NumsL.lean.txt@@
namespace Jvm.Pilot.@@N@@
open Jvm Jvm.ClassFile Sem Op Lib Jvm.Free Jvm.Stand Jvm.LawKit Jvm.RoadKit Bundle Jvm.Pilot.@@N@@.Jvm.D
section Own
variable {p : Program} {l : Launch} {e : Env} {R : Room} {s : State} {m : MethodId} {args : Array Value} {below : List Frame} {meth : Method} {c : Code} {T : State} {locs : List Loc} {cells slots : Nat} {Z : State} {a0 : Array Value} {h : Heap}
/-- from here the walk comes to an end that P holds of -/
def own_G (p : Program) (e : Env) (below : List Frame) (P : State → Outcome → Prop) (T : State) (g : JFrame) : Prop := ∃ t o, Steps p.tables e below (T.setTop g) t ∧ P t o
def own_P (below : List Frame) (s : State) (rm : Room) (Q : Option Value → Heap → List Loc → Prop) (t : State) (o : Outcome) : Prop := t.status = .running ∧ Ended t below o ∧ ∃ v L, o = .returned v ∧ Q v t.heap L ∧ FrameEnd s o t L rm.cells rm.slots
/-- a body's contract: over these arguments and this heap it returns, and Q holds of what it returns, the heap and the places written -/
def own_M (l : Launch) (Z : State) (y : MethodName) (code : ByteArray) (maxL : Nat) (ret : Option FieldType) (rm : Room) (as : Array Value) (h : Heap) (Q : Option Value → Heap → List Loc → Prop) : Prop :=
  ∀ ws : List Jvm.Cond, MetFree l y (head1 (Jvm.Cond.code y code maxL ret :: ws) rm) (fun a U => a = as ∧ Z.Warmed39 U.vm ∧ U.heap = h) (fun _ _ _ _ _ => True) (fun _ U o U' => ∃ v L, o = .returned v ∧ Q v U'.heap L ∧ FrameEnd U o U' L rm.cells rm.slots)
theorem own_go {P : State → Outcome → Prop} {T' : State} {g g' : JFrame} (st : ∀ t, Steps p.tables e below (T'.setTop g') t → Steps p.tables e below (T.setTop g) t) (k : own_G p e below P T' g') : own_G p e below P T g := by
  obtain ⟨t, o, h1, h2⟩ := k
  exact ⟨t, o, st t h1, h2⟩
theorem own_body {y : MethodName} {code : ByteArray} {maxL : Nat} {ret : Option FieldType} {rm : Room} {as : Array Value} {Q : Option Value → Heap → List Loc → Prop} (hn : plainFor y = true)
    (body : ∀ (p : Program) (e : Env) (s : State) (m : MethodId) (below : List Frame) (meth : Method) (c : Code) (T : State), p.tables.exec = Jvm.exec → c.code = code → c.maxLocals = maxL → meth.locks = false → s.vm.findClass y.cls = some m.cls → meth.sig.returnType = ret → meth.name = y.name → Z.Warmed39 s.vm → Stand p l e rm s m as below meth c T [] 0 0 → T.heap = h → own_G p e below (own_P below s rm Q) T (entryFrame m as maxL)) :
    own_M l Z y code maxL ret rm as h Q := by
  intro ws
  refine MetFree.of_bodySF hn hisR ?_
  intro p e s m args below meth c s₁ Bd hml0 hP hK
  obtain ⟨rfl, hZ, hh⟩ := hP
  obtain ⟨t, o, h1, h2, h3, h4⟩ := body p e s m below meth c s₁ Bd.exec Bd.bytes hml0 Bd.notSynchronized (findClass_of_methodNamed Bd.named) Bd.returns (name_of_methodNamed Bd.named Bd.method).1 hZ (Stand.of_body Bd) (by rw [← hh, Bd.state]; rfl)
  exact ⟨t, o, h1, h2, h3, h4⟩
theorem own_retI {rm : Room} {Q : Option Value → Heap → List Loc → Prop} (X : Stand p l e R s m args below meth c T locs cells slots) (hx : p.tables.exec = Jvm.exec) (hlk : meth.locks = false) (hret : meth.sig.returnType = some .int) {pc : Nat} {Ls : Array Slot} {z : Int32} {rest : List Value} (hd : decode c.code pc = .ok (.ireturn, 1)) (hc : cells ≤ rm.cells) (hs : slots ≤ rm.slots) (hQ : Q (some (.int z)) T.heap locs) :
    own_G p e below (own_P below s rm Q) T (mkF m pc Ls (.int z :: rest)) := by
  obtain ⟨fs, hr, hrun, hended, hW, hsame⟩ := X.leave (v := some (.int z)) (fun h => by rw [hret] at h; cases h) hlk
  exact ⟨_, _, retOut X hx hret rfl (Or.inl ⟨rfl, Or.inl rfl, _, rfl⟩) hd hr, hrun, hended, _, _, rfl, hQ, ⟨_, rfl⟩, hW, hsame.mono hc hs⟩
theorem own_retN {rm : Room} {Q : Option Value → Heap → List Loc → Prop} (X : Stand p l e R s m args below meth c T locs cells slots) (hx : p.tables.exec = Jvm.exec) (hlk : meth.locks = false) {t : FieldType} (hret : meth.sig.returnType = some t) (ht : t = .boolean ∨ t = .byte ∨ t = .char ∨ t = .short) {pc : Nat} {Ls : Array Slot} {z : Int32} {rest : List Value} (hd : decode c.code pc = .ok (.ireturn, 1)) (hc : cells ≤ rm.cells) (hs : slots ≤ rm.slots) (hQ : Q (some (.int (nar t z))) T.heap locs) :
    own_G p e below (own_P below s rm Q) T (mkF m pc Ls (.int z :: rest)) := by
  obtain ⟨fs, hr, hrun, hended, hW, hsame⟩ := X.leave (v := some (.int (nar t z))) (fun h => by rw [hret] at h; cases h) hlk
  exact ⟨_, _, retN X hx hret ht hd hr, hrun, hended, _, _, rfl, hQ, ⟨_, rfl⟩, hW, hsame.mono hc hs⟩
theorem own_narrow {t : FieldType} {w : Value} (hw : w.isRef = true) : narrow t w = w := by
  rcases ref_cases hw with rfl | ⟨a, rfl⟩ <;> cases t <;> rfl
theorem own_retA {rm : Room} {Q : Option Value → Heap → List Loc → Prop} (X : Stand p l e R s m args below meth c T locs cells slots) (hx : p.tables.exec = Jvm.exec) (hlk : meth.locks = false) {t : FieldType} (hret : meth.sig.returnType = some t) (ht : t.isReference = true) {pc : Nat} {Ls : Array Slot} {w : Value} {rest : List Value} (hw : w.isRef = true) (hd : decode c.code pc = .ok (.areturn, 1)) (hc : cells ≤ rm.cells) (hs : slots ≤ rm.slots) (hQ : Q (some w) T.heap locs) :
    own_G p e below (own_P below s rm Q) T (mkF m pc Ls (w :: rest)) := by
  obtain ⟨fs, hr, hrun, hended, hW, hsame⟩ := X.leave (v := some w) (fun h => by rw [hret] at h; cases h) hlk
  exact ⟨_, _, retOut X hx hret (own_narrow hw) (Or.inr (Or.inr (Or.inr (Or.inr ⟨rfl, ht, hw⟩)))) hd hr, hrun, hended, _, _, rfl, hQ, ⟨_, rfl⟩, hW, hsame.mono hc hs⟩
theorem own_ret0 {rm : Room} {Q : Option Value → Heap → List Loc → Prop} (X : Stand p l e R s m args below meth c T locs cells slots) (hx : p.tables.exec = Jvm.exec) (hlk : meth.locks = false) (hret : meth.sig.returnType = none) {pc : Nat} {Ls : Array Slot} (hd : decode c.code pc = .ok (.return_, 1)) (hc : cells ≤ rm.cells) (hs : slots ≤ rm.slots) (hQ : Q none T.heap locs) :
    own_G p e below (own_P below s rm Q) T (mkF m pc Ls []) := by
  obtain ⟨fs, hr, hrun, hended, hW, hsame⟩ := X.leave (v := none) (fun _ => rfl) hlk
  exact ⟨_, _, X.returnOut hx hret hd hr, hrun, hended, _, _, rfl, hQ, ⟨_, rfl⟩, hW, hsame.mono hc hs⟩
theorem own_callS (X : Stand p l e R s m args below meth c T locs cells slots) (hx : p.tables.exec = Jvm.exec) (hZ : Z.Warmed39 s.vm) {own : String} {index : Nat} {y : MethodName} {bytes : ByteArray} {maxL : Nat} {ret : Option FieldType} (hown : s.vm.findClass own = some m.cls)
    (w1 : (Jvm.Cond.methodLink own index y).before a0 Z = true) (w2 : (Jvm.Cond.static y).before a0 Z = true) (w3 : (Jvm.Cond.initialized y.cls).before a0 Z = true) (w4 : (Jvm.Cond.code y bytes maxL ret).before a0 Z = true) (hy : y.cls ≠ "java/lang/invoke/MethodHandle" ∧ y.cls ≠ "java/lang/invoke/VarHandle")
    {rm : Room} {argsL rest : List Value} {Q : Option Value → Heap → List Loc → Prop} (hM : own_M l Z y bytes maxL ret rm argsL.toArray h Q) (eT : T.heap = h) {g : JFrame} (hg : g.method = m) (hsize : g.locals.size = c.maxLocals) {ps : List FieldType} {r : Option FieldType} (hpd : parseMethodDescriptor y.desc = some ⟨ps, r⟩) (hpl : argsL.length = ps.length)
    (hstack : g.stack = argsL.reverse ++ rest) {W : Nat} (hW : 2 * g.monitorRoom + (rest.map fun v => v.category).sum ≤ W) (hdg : decode c.code g.pc = .ok (.invokestatic index, 3)) (hf : rm.frames + 1 ≤ R.frames) (hl : W + (maxL + 11) + rm.locals ≤ R.locals) (hc : cells + rm.cells ≤ R.cells) (hs : slots + rm.slots ≤ R.slots) :
    ∃ (T' : State) (L : List Loc) (v : Option Value), Stand p l e R s m args below meth c T' (locs ++ L) (cells + rm.cells) (slots + rm.slots) ∧ Q v T'.heap L ∧ ∀ t, Steps p.tables e below (T'.setTop { g with pc := g.pc + 3, stack := v.toList ++ rest }) t → Steps p.tables e below (T.setTop g) t := by
  obtain ⟨v, vm₁, ⟨T', L', k', n'⟩, -, X', ⟨L, hQ, e1, e2, e3⟩, st⟩ := Jvm.LawKit.callS X hx (y := y) hown (mvT hZ w1) (mvT hZ w2) (mvT hZ w3) (mvT hZ w4) hy (backOf (W := W) (hM []) hZ w4 w3 hf hl) hg hsize (argsL := argsL) (rest := rest) (lenOf hpd hpl) hstack hW hdg (fun _ _ => ⟨rfl, eT, hc, hs⟩)
  dsimp only [Pt.U, Pt.locs, Pt.cells, Pt.slots] at X' e1 e2 e3 st hQ
  subst e1 e2 e3
  exact ⟨T', L, v, X', hQ, st⟩
theorem own_callV (X : Stand p l e R s m args below meth c T locs cells slots) (hx : p.tables.exec = Jvm.exec) (hZ : Z.Warmed39 s.vm) {own C : String} {index : Nat} {y z : MethodName} {bytes : ByteArray} {maxL : Nat} {ret : Option FieldType} (hown : s.vm.findClass own = some m.cls)
    (w1 : (Jvm.Cond.methodLink own index y).before a0 Z = true) (w2 : (Jvm.Cond.declares y).before a0 Z = true) (w3 : (Jvm.Cond.selects y.cls y z).before a0 Z = true) (w3' : (Jvm.Cond.selects C y z).before a0 Z = true) (w4 : (Jvm.Cond.instanceMethod z).before a0 Z = true) (w5 : (Jvm.Cond.code z bytes maxL ret).before a0 Z = true) (w6 : (Jvm.Cond.initialized z.cls).before a0 Z = true) (hnf : NotFace s y)
    (hy : y.cls ≠ "java/lang/invoke/MethodHandle" ∧ y.cls ≠ "java/lang/invoke/VarHandle")
    {rm : Room} {a : Addr} {argsL rest : List Value} {Q : Option Value → Heap → List Loc → Prop} (hM : own_M l Z z bytes maxL ret rm (.ref a :: argsL).toArray h Q) (eT : T.heap = h) (E : Exa Z h a C) {g : JFrame} (hg : g.method = m) (hsize : g.locals.size = c.maxLocals) {ps : List FieldType} {r : Option FieldType} (hpd : parseMethodDescriptor y.desc = some ⟨ps, r⟩) (hpl : argsL.length = ps.length)
    (hstack : g.stack = argsL.reverse ++ .ref a :: rest) {W : Nat} (hW : 2 * g.monitorRoom + (rest.map fun v => v.category).sum ≤ W) (hdg : decode c.code g.pc = .ok (.invokevirtual index, 3)) (hf : rm.frames + 1 ≤ R.frames) (hl : W + (maxL + 11) + rm.locals ≤ R.locals) (hc : cells + rm.cells ≤ R.cells) (hs : slots + rm.slots ≤ R.slots) :
    ∃ (T' : State) (L : List Loc) (v : Option Value), Stand p l e R s m args below meth c T' (locs ++ L) (cells + rm.cells) (slots + rm.slots) ∧ Q v T'.heap L ∧ ∀ t, Steps p.tables e below (T'.setTop { g with pc := g.pc + 3, stack := v.toList ++ rest }) t → Steps p.tables e below (T.setTop g) t := by
  obtain ⟨cq, kq, qa, qb, qc⟩ := isOf hZ eT E
  obtain ⟨v, vm₁, ⟨T', L', k', n'⟩, -, X', ⟨L, hQ, e1, e2, e3⟩, st⟩ := X.virtualBack hx (y := y) (z := z) hown (mvT hZ w1) (mvT hZ w2) hnf (mvT hZ w3') (mvT hZ w4) hy (backOf (W := W) (hM []) hZ w5 w6 hf hl) qa qc hg hsize (Steps.refl _) (argsL := argsL) (rest := rest) (lenOf hpd hpl) hstack hW hdg (fun _ _ => ⟨rfl, eT, hc, hs⟩)
  dsimp only [Pt.U, Pt.locs, Pt.cells, Pt.slots] at X' e1 e2 e3 st hQ
  subst e1 e2 e3
  exact ⟨T', L, v, X', hQ, fun t k => st.trans k⟩
theorem own_callU (X : Stand p l e R s m args below meth c T locs cells slots) (hx : p.tables.exec = Jvm.exec) (hZ : Z.Warmed39 s.vm) {own C owner : String} {index : Nat} {y z : MethodName} {bytes : ByteArray} {maxL : Nat} {ret : Option FieldType} (hown : s.vm.findClass own = some m.cls)
    (w1 : (Jvm.Cond.methodLink own index y).before a0 Z = true) (w2 : (Jvm.Cond.sameMethod y.cls owner y.name y.desc).before a0 Z = true) (w2' : (Jvm.Cond.declares ⟨owner, y.name, y.desc⟩).before a0 Z = true) (w3 : (Jvm.Cond.selects C y z).before a0 Z = true) (w4 : (Jvm.Cond.instanceMethod z).before a0 Z = true) (w5 : (Jvm.Cond.code z bytes maxL ret).before a0 Z = true) (w6 : (Jvm.Cond.initialized z.cls).before a0 Z = true)
    (hy : owner ≠ "java/lang/invoke/MethodHandle" ∧ owner ≠ "java/lang/invoke/VarHandle")
    {rm : Room} {a : Addr} {argsL rest : List Value} {Q : Option Value → Heap → List Loc → Prop} (hM : own_M l Z z bytes maxL ret rm (.ref a :: argsL).toArray h Q) (eT : T.heap = h) (E : Exa Z h a C) {g : JFrame} (hg : g.method = m) (hsize : g.locals.size = c.maxLocals) {ps : List FieldType} {r : Option FieldType} (hpd : parseMethodDescriptor y.desc = some ⟨ps, r⟩) (hpl : argsL.length = ps.length)
    (hstack : g.stack = argsL.reverse ++ .ref a :: rest) {W : Nat} (hW : 2 * g.monitorRoom + (rest.map fun v => v.category).sum ≤ W) (hdg : decode c.code g.pc = .ok (.invokevirtual index, 3)) (hf : rm.frames + 1 ≤ R.frames) (hl : W + (maxL + 11) + rm.locals ≤ R.locals) (hc : cells + rm.cells ≤ R.cells) (hs : slots + rm.slots ≤ R.slots) :
    ∃ (T' : State) (L : List Loc) (v : Option Value), Stand p l e R s m args below meth c T' (locs ++ L) (cells + rm.cells) (slots + rm.slots) ∧ Q v T'.heap L ∧ ∀ t, Steps p.tables e below (T'.setTop { g with pc := g.pc + 3, stack := v.toList ++ rest }) t → Steps p.tables e below (T.setTop g) t := by
  obtain ⟨cq, kq, qa, qb, qc⟩ := isOf hZ eT E
  obtain ⟨v, vm₁, ⟨T', L', k', n'⟩, -, X', ⟨L, hQ, e1, e2, e3⟩, st⟩ := X.virtualBackUp hx (x := y) (y := z) hown (mvT hZ w1) (mvT hZ w2) (mvT hZ w2') hy (mvT hZ w3) (mvT hZ w4) (backOf (W := W) (hM []) hZ w5 w6 hf hl) qa qc hg hsize (Steps.refl _) (argsL := argsL) (rest := rest) (lenOf hpd hpl) hstack hW hdg (fun _ _ => ⟨rfl, eT, hc, hs⟩)
  dsimp only [Pt.U, Pt.locs, Pt.cells, Pt.slots] at X' e1 e2 e3 st hQ
  subst e1 e2 e3
  exact ⟨T', L, v, X', hQ, fun t k => st.trans k⟩
theorem own_neL {i K : Int32} {k : Int} (h : ¬ i = K) (hk : K.toInt = k) : k ≠ i.toInt := fun q => h (Int32.toInt_inj.mp (by rw [hk, q]))
abbrev own_cell (cA : ClassId) (vs : Array Value) : Cell := { cls := cA, slots := vs, vm := .none }
theorem own_in {cl : Cell} {j : Int32} {n : Nat} (hs : cl.slots.size = n) (hj : ¬ (j < 0 ∨ n ≤ j.toNatClampNeg)) : ¬ (j < 0 ∨ cl.slots.size ≤ j.toNatClampNeg) := by rw [hs]; exact hj
theorem own_ext_refl (h : Heap) : Ext h h := ⟨Nat.le_refl _, fun _ _ q => q⟩
theorem own_ext_trans {h0 h h' : Heap} (E : Ext h0 h) (E' : Ext h h') : Ext h0 h' := ⟨Nat.le_trans E.1 E'.1, fun a c q => E'.2 a c (E.2 a c q)⟩
theorem own_ext_eq {h0 h h' : Heap} (E : Ext h0 h) (q : h' = h) : Ext h0 h' := q ▸ E
theorem own_acVF {v w : Value} (q : v = w) : Jvm.Free.XT.acmp .ne v w = false := by subst q; simp [Jvm.Free.XT.acmp]
theorem own_ext_wr {h0 h h' : Heap} {a : Addr} {sl : Nat} {v : Value} (E : Ext h0 h) (W : Wr h h' a sl v) (q : h0.size ≤ a) : Ext h0 h' := by
  refine ⟨by rw [W.size]; exact E.1, fun x cx hx => ?_⟩
  obtain ⟨c', e1, -, -, -, e5, -⟩ := wr_at W (E.2 x cx hx)
  rw [← e5 (Nat.ne_of_lt (Nat.lt_of_lt_of_le (Array.getElem?_eq_some_iff.mp hx).1 q))]
  exact e1
theorem own_fld {t : Term} {a : Addr} {C n d : String} {k : Int32} (ev : t.eval args Z none [] Z = some (.ref a)) (w : (Jvm.Cond.eq (.field t C n d) (.int k)).value args Z none Z [] = some true) : Fld Z Z.heap a C n d (.int k) := by
  obtain ⟨x, y, e1, e2, k1, k2⟩ := cmp_v (Or.inl w)
  obtain rfl : y = .int k := (Option.some.inj e2).symm
  obtain ⟨z, rfl⟩ := k2
  have hz := gotT (Jvm.Cond.eq_ints e1 e2) w
  rw [fld_at ev] at e1
  rw [hz] at e1
  exact Fld.start e1
theorem own_len {t : Term} {a : Addr} {cl : Cell} {ty : FieldType} {k : Int32} (ev : t.eval args Z none [] Z = some (.ref a)) (A : Arr Z Z.heap a cl ty) (w : (Jvm.Cond.eq (.length t) (.int k)).value args Z none Z [] = some true) : cl.slots.size = k.toInt.toNat := by
  obtain ⟨x, y, e1, e2, k1, k2⟩ := cmp_v (Or.inl w)
  obtain rfl : y = .int k := (Option.some.inj e2).symm
  obtain ⟨z, rfl⟩ := k2
  have hz := gotT (Jvm.Cond.eq_ints e1 e2) w
  have hA : Z.arrayAt? a = some cl := Arr.fin (Vm.Alike.refl _) A
  by_cases hl : cl.slots.size < 2 ^ 31
  · rw [len_f ev hA hl] at e1
    have h1 : cl.slots.size.toInt32 = z := Value.int.inj (Option.some.inj e1)
    rw [← hz, ← h1, len_toInt hl]
    rfl
  · simp [Term.eval, ev, hA, hl] at e1
theorem own_elemI {t : Term} {a : Addr} {cl : Cell} {ty : FieldType} {j k : Int32} (ev : t.eval args Z none [] Z = some (.ref a)) (A : Arr Z Z.heap a cl ty) (w : (Jvm.Cond.eq (.elem t (.int j)) (.int k)).value args Z none Z [] = some true) : cl.slots[j.toNatClampNeg]? = some (.int k) := by
  obtain ⟨x, y, e1, e2, k1, k2⟩ := cmp_v (Or.inl w)
  obtain rfl : y = .int k := (Option.some.inj e2).symm
  obtain ⟨z, rfl⟩ := k2
  have hz := gotT (Jvm.Cond.eq_ints e1 e2) w
  rw [← hz]
  exact (elem_in e1 ev (Term.int_eval j) A.1).2
theorem own_elemR {t u : Term} {a b : Addr} {cl : Cell} {ty : FieldType} {j : Int32} (ev : t.eval args Z none [] Z = some (.ref a)) (A : Arr Z Z.heap a cl ty) (ev' : u.eval args Z none [] Z = some (.ref b)) (w : (Jvm.Cond.eq (.elem t (.int j)) u).value args Z none Z [] = some true) : cl.slots[j.toNatClampNeg]? = some (.ref b) := by
  obtain ⟨x, y, e1, e2, k1, k2⟩ := cmp_v (Or.inl w)
  obtain rfl : y = .ref b := (Option.some.inj (ev'.symm.trans e2)).symm
  have hz := gotT (eq_R e1 e2 k2.2 rfl) w
  rw [← hz]
  exact (elem_in e1 ev (Term.int_eval j) A.1).2
theorem own_neV {a b : Int32} (h : a ≠ b) : (Value.int a) ≠ Value.int b := fun q => h (Value.int.inj q)
theorem own_acT {a b : Addr} (h : a = b) : Jvm.Free.XT.acmp .eq (.ref a) (.ref b) = true := by subst h; simp [Jvm.Free.XT.acmp]
theorem own_acF {a b : Addr} (h : a ≠ b) : Jvm.Free.XT.acmp .eq (.ref a) (.ref b) = false := by simp [Jvm.Free.XT.acmp, h]
theorem own_acnT {a b : Addr} (h : a ≠ b) : Jvm.Free.XT.acmp .ne (.ref a) (.ref b) = true := by simp [Jvm.Free.XT.acmp, h]
theorem own_acnF {a b : Addr} (h : a = b) : Jvm.Free.XT.acmp .ne (.ref a) (.ref b) = false := by subst h; simp [Jvm.Free.XT.acmp]
theorem own_mask (x : Int32) : 0 ≤ (x &&& 2147483647).toInt := by
  have := Jvm.Kit.i32_mask x 2147483647 (k := 31) (by decide) (by decide)
  omega
theorem own_rem (y n : Int32) (h0 : 0 ≤ y.toInt) (hn : 0 < n.toInt) : 0 ≤ (y % n).toInt ∧ (y % n).toInt < n.toInt := by
  rw [Int32.toInt_mod]
  exact ⟨Int.tmod_nonneg _ h0, by
    have := Int.tmod_lt_of_pos y.toInt hn
    exact this⟩
end Own
end Jvm.Pilot.@@N@@
namespace Jvm.Pilot.@@N@@
open Jvm Jvm.ClassFile Sem Op Lib Jvm.Free Jvm.Stand Jvm.LawKit Jvm.RoadKit Bundle Jvm.Pilot.@@N@@.Jvm.D
def own_B (Z : State) (h : Heap) (a_EQUAL a_LESS a_NOT_EQUAL a_GREATER a_GREATER_OR_EQUAL a_LESS_OR_EQUAL : Addr) : Prop := Sta Z h "com/example/quern/quern/query/ComparisonOperator" "EQUAL" "Lcom/example/quern/quern/query/ComparisonOperator;" (.ref a_EQUAL) ∧ Exa Z h a_EQUAL "com/example/quern/quern/query/ComparisonOperator" ∧ Fld Z h a_EQUAL "java/lang/Enum" "ordinal" "I" (.int (0 : Int32)) ∧ Sta Z h "com/example/quern/quern/query/ComparisonOperator" "LESS" "Lcom/example/quern/quern/query/ComparisonOperator;" (.ref a_LESS) ∧ Exa Z h a_LESS "com/example/quern/quern/query/ComparisonOperator" ∧ Fld Z h a_LESS "java/lang/Enum" "ordinal" "I" (.int (2 : Int32)) ∧ Sta Z h "com/example/quern/quern/query/ComparisonOperator" "NOT_EQUAL" "Lcom/example/quern/quern/query/ComparisonOperator;" (.ref a_NOT_EQUAL) ∧ Exa Z h a_NOT_EQUAL "com/example/quern/quern/query/ComparisonOperator" ∧ Fld Z h a_NOT_EQUAL "java/lang/Enum" "ordinal" "I" (.int (1 : Int32)) ∧ Sta Z h "com/example/quern/quern/query/ComparisonOperator" "GREATER" "Lcom/example/quern/quern/query/ComparisonOperator;" (.ref a_GREATER) ∧ Exa Z h a_GREATER "com/example/quern/quern/query/ComparisonOperator" ∧ Fld Z h a_GREATER "java/lang/Enum" "ordinal" "I" (.int (4 : Int32)) ∧ Sta Z h "com/example/quern/quern/query/ComparisonOperator" "GREATER_OR_EQUAL" "Lcom/example/quern/quern/query/ComparisonOperator;" (.ref a_GREATER_OR_EQUAL) ∧ Exa Z h a_GREATER_OR_EQUAL "com/example/quern/quern/query/ComparisonOperator" ∧ Fld Z h a_GREATER_OR_EQUAL "java/lang/Enum" "ordinal" "I" (.int (5 : Int32)) ∧ Sta Z h "com/example/quern/quern/query/ComparisonOperator" "LESS_OR_EQUAL" "Lcom/example/quern/quern/query/ComparisonOperator;" (.ref a_LESS_OR_EQUAL) ∧ Exa Z h a_LESS_OR_EQUAL "com/example/quern/quern/query/ComparisonOperator" ∧ Fld Z h a_LESS_OR_EQUAL "java/lang/Enum" "ordinal" "I" (.int (3 : Int32))
theorem own_B_ext {Z : State} {h h' : Heap} {a_EQUAL a_LESS a_NOT_EQUAL a_GREATER a_GREATER_OR_EQUAL a_LESS_OR_EQUAL : Addr} (E : Ext h h') (B : own_B Z h a_EQUAL a_LESS a_NOT_EQUAL a_GREATER a_GREATER_OR_EQUAL a_LESS_OR_EQUAL) : own_B Z h' a_EQUAL a_LESS a_NOT_EQUAL a_GREATER a_GREATER_OR_EQUAL a_LESS_OR_EQUAL := by
  obtain ⟨S_EQUAL, E_EQUAL, F_EQUAL_ordinal, S_LESS, E_LESS, F_LESS_ordinal, S_NOT_EQUAL, E_NOT_EQUAL, F_NOT_EQUAL_ordinal, S_GREATER, E_GREATER, F_GREATER_ordinal, S_GREATER_OR_EQUAL, E_GREATER_OR_EQUAL, F_GREATER_OR_EQUAL_ordinal, S_LESS_OR_EQUAL, E_LESS_OR_EQUAL, F_LESS_OR_EQUAL_ordinal⟩ := B
  exact ⟨S_EQUAL.ext E, E_EQUAL.ext E, F_EQUAL_ordinal.ext E, S_LESS.ext E, E_LESS.ext E, F_LESS_ordinal.ext E, S_NOT_EQUAL.ext E, E_NOT_EQUAL.ext E, F_NOT_EQUAL_ordinal.ext E, S_GREATER.ext E, E_GREATER.ext E, F_GREATER_ordinal.ext E, S_GREATER_OR_EQUAL.ext E, E_GREATER_OR_EQUAL.ext E, F_GREATER_OR_EQUAL_ordinal.ext E, S_LESS_OR_EQUAL.ext E, E_LESS_OR_EQUAL.ext E, F_LESS_OR_EQUAL_ordinal.ext E⟩
theorem own_l6 (z : Int32) (h0 : 0 ≤ z.toInt) (h1 : z.toInt ≤ 5) : z = (0 : Int32) ∨ z = (1 : Int32) ∨ z = (2 : Int32) ∨ z = (3 : Int32) ∨ z = (4 : Int32) ∨ z = (5 : Int32) := by
  simp only [← Int32.toInt_inj]
  change z.toInt = 0 ∨ z.toInt = 1 ∨ z.toInt = 2 ∨ z.toInt = 3 ∨ z.toInt = 4 ∨ z.toInt = 5
  omega
def own_pick (a_EQUAL a_LESS a_NOT_EQUAL a_GREATER a_GREATER_OR_EQUAL a_LESS_OR_EQUAL : Addr) (k1 : Int32) : Addr := (if k1 = (0 : Int32) then a_EQUAL else (if k1 = (1 : Int32) then a_NOT_EQUAL else (if k1 = (2 : Int32) then a_LESS else (if k1 = (3 : Int32) then a_LESS_OR_EQUAL else (if k1 = (4 : Int32) then a_GREATER else a_GREATER_OR_EQUAL)))))
theorem d1_0 : decode method_2_code 0 = .ok (.iload_n 0, 1) := by decide +kernel
theorem d1_1 : decode method_2_code 1 = .ok (.ifCond .ne 7, 3) := by decide +kernel
theorem d1_4 : decode method_2_code 4 = .ok (.getstatic 7, 3) := by decide +kernel
theorem d1_7 : decode method_2_code 7 = .ok (.areturn, 1) := by decide +kernel
theorem d1_8 : decode method_2_code 8 = .ok (.iload_n 0, 1) := by decide +kernel
theorem d1_9 : decode method_2_code 9 = .ok (.iconst 1, 1) := by decide +kernel
theorem d1_10 : decode method_2_code 10 = .ok (.if_icmp .ne 7, 3) := by decide +kernel
theorem d1_13 : decode method_2_code 13 = .ok (.getstatic 13, 3) := by decide +kernel
theorem d1_16 : decode method_2_code 16 = .ok (.areturn, 1) := by decide +kernel
theorem d1_17 : decode method_2_code 17 = .ok (.iload_n 0, 1) := by decide +kernel
theorem d1_18 : decode method_2_code 18 = .ok (.iconst 2, 1) := by decide +kernel
theorem d1_19 : decode method_2_code 19 = .ok (.if_icmp .ne 7, 3) := by decide +kernel
theorem d1_22 : decode method_2_code 22 = .ok (.getstatic 16, 3) := by decide +kernel
theorem d1_25 : decode method_2_code 25 = .ok (.areturn, 1) := by decide +kernel
theorem d1_26 : decode method_2_code 26 = .ok (.iload_n 0, 1) := by decide +kernel
theorem d1_27 : decode method_2_code 27 = .ok (.iconst 3, 1) := by decide +kernel
theorem d1_28 : decode method_2_code 28 = .ok (.if_icmp .ne 7, 3) := by decide +kernel
theorem d1_31 : decode method_2_code 31 = .ok (.getstatic 19, 3) := by decide +kernel
theorem d1_34 : decode method_2_code 34 = .ok (.areturn, 1) := by decide +kernel
theorem d1_35 : decode method_2_code 35 = .ok (.iload_n 0, 1) := by decide +kernel
theorem d1_36 : decode method_2_code 36 = .ok (.iconst 4, 1) := by decide +kernel
theorem d1_37 : decode method_2_code 37 = .ok (.if_icmp .ne 7, 3) := by decide +kernel
theorem d1_40 : decode method_2_code 40 = .ok (.getstatic 22, 3) := by decide +kernel
theorem d1_43 : decode method_2_code 43 = .ok (.areturn, 1) := by decide +kernel
theorem d1_44 : decode method_2_code 44 = .ok (.getstatic 25, 3) := by decide +kernel
theorem d1_47 : decode method_2_code 47 = .ok (.areturn, 1) := by decide +kernel
theorem pn_1 : plainFor (⟨"com/example/quern/quern/query/ComparisonOperatorIsOrderingPinLaw", "pick", "(I)Lcom/example/quern/quern/query/ComparisonOperator;"⟩ : MethodName) = true := by first | exact plainFor_of_name (by first | (simp [plainName, overriddenIn]; done) | decide +kernel) | decide +kernel
set_option maxRecDepth 65536 in
set_option maxHeartbeats 40000000 in
theorem c_pick (l : Launch) (Z : State) (a0 : Array Value) (hw : ∀ d ∈ tables_1, d.before a0 Z = true) (a_EQUAL a_LESS a_NOT_EQUAL a_GREATER a_GREATER_OR_EQUAL a_LESS_OR_EQUAL : Addr) (k1 : Int32) (h0 : Heap) (B : own_B Z h0 a_EQUAL a_LESS a_NOT_EQUAL a_GREATER a_GREATER_OR_EQUAL a_LESS_OR_EQUAL) :
    own_M l Z (⟨"com/example/quern/quern/query/ComparisonOperatorIsOrderingPinLaw", "pick", "(I)Lcom/example/quern/quern/query/ComparisonOperator;"⟩ : MethodName) method_2_code 1 (some (.object "com/example/quern/quern/query/ComparisonOperator")) ⟨0, 0, 0, 0⟩ #[.int k1] h0 (fun v h L => v = some (.ref (own_pick a_EQUAL a_LESS a_NOT_EQUAL a_GREATER a_GREATER_OR_EQUAL a_LESS_OR_EQUAL k1)) ∧ L = [] ∧ h = h0) := by
  refine own_body pn_1 ?_
  intro p e s m below meth c T0 hx hby hml hlk hown hret hnm hZ X0 e0
  replace hown : s.vm.findClass "com/example/quern/quern/query/ComparisonOperatorIsOrderingPinLaw" = some m.cls := hown
  replace hml : c.maxLocals = 1 := hml
  obtain ⟨S_EQUAL, E_EQUAL, F_EQUAL_ordinal, S_LESS, E_LESS, F_LESS_ordinal, S_NOT_EQUAL, E_NOT_EQUAL, F_NOT_EQUAL_ordinal, S_GREATER, E_GREATER, F_GREATER_ordinal, S_GREATER_OR_EQUAL, E_GREATER_OR_EQUAL, F_GREATER_OR_EQUAL_ordinal, S_LESS_OR_EQUAL, E_LESS_OR_EQUAL, F_LESS_OR_EQUAL_ordinal⟩ := id B
  have ef : entryFrame m #[.int k1] 1 = (mkF m 0 #[.val (.int k1)] []) := by first | (simp [entryFrame, mkF, argsToLocals, Value.category]; done) | rfl
  rw [ef]
  refine own_go (fun t k => XS.iloadN X0.here hx rfl (hb hby d1_0) rfl k) ?_
  show own_G p e below _ T0 (mkF m 1 #[.val (.int k1)] [(.int k1)])
  by_cases hc1 : k1 = (0 : Int32)
  ·
    refine own_go (fun t k => XS.ifNo X0.here hx rfl (hb hby d1_1) rfl (Jvm.Free.XT.i0_ne_f hc1) k) ?_
    show own_G p e below _ T0 (mkF m 4 #[.val (.int k1)] [])
    obtain ⟨T2, X2, e2, st2⟩ := getS X0 hx hZ hown (host := "") (hw _ (List.mem_of_getElem? (i := 5) rfl)) Via.refl e0 S_EQUAL (g := (mkF m 4 #[.val (.int k1)] [])) rfl (hb hby d1_4)
    refine own_go st2 ?_
    show own_G p e below _ T2 (mkF m 7 #[.val (.int k1)] [(.ref a_EQUAL)])
    exact own_retA X2 hx hlk hret rfl rfl (hb hby d1_7) (by decide) (by decide) ⟨congrArg some (congrArg Value.ref (Eq.symm (show (own_pick a_EQUAL a_LESS a_NOT_EQUAL a_GREATER a_GREATER_OR_EQUAL a_LESS_OR_EQUAL k1) = a_EQUAL from (by unfold own_pick; rw [if_pos hc1])))), rfl, e2⟩
  ·
    refine own_go (fun t k => XS.ifYes X0.here hx rfl (pc0 := 1) (pc' := 8) rfl (hb hby d1_1) rfl (Jvm.Free.XT.i0_ne_t hc1) (by decide) (by decide) k) ?_
    show own_G p e below _ T0 (mkF m 8 #[.val (.int k1)] [])
    refine own_go (fun t k => XS.iloadN X0.here hx rfl (hb hby d1_8) rfl k) ?_
    show own_G p e below _ T0 (mkF m 9 #[.val (.int k1)] [(.int k1)])
    refine own_go (fun t k => XS.iconst X0.here hx rfl (hb hby d1_9) k) ?_
    show own_G p e below _ T0 (mkF m 10 #[.val (.int k1)] [(.int (1 : Int32)), (.int k1)])
    by_cases hc3 : k1 = (1 : Int32)
    ·
      refine own_go (fun t k => XS.icmpNo X0.here hx rfl (hb hby d1_10) rfl (Jvm.Free.XT.ii_ne_f hc3) k) ?_
      show own_G p e below _ T0 (mkF m 13 #[.val (.int k1)] [])
      obtain ⟨T4, X4, e4, st4⟩ := getS X0 hx hZ hown (host := "") (hw _ (List.mem_of_getElem? (i := 35) rfl)) Via.refl e0 S_NOT_EQUAL (g := (mkF m 13 #[.val (.int k1)] [])) rfl (hb hby d1_13)
      refine own_go st4 ?_
      show own_G p e below _ T4 (mkF m 16 #[.val (.int k1)] [(.ref a_NOT_EQUAL)])
      exact own_retA X4 hx hlk hret rfl rfl (hb hby d1_16) (by decide) (by decide) ⟨congrArg some (congrArg Value.ref (Eq.symm (show (own_pick a_EQUAL a_LESS a_NOT_EQUAL a_GREATER a_GREATER_OR_EQUAL a_LESS_OR_EQUAL k1) = a_NOT_EQUAL from (by unfold own_pick; rw [if_neg hc1, if_pos hc3])))), rfl, e4⟩
    ·
      refine own_go (fun t k => XS.icmpYes X0.here hx rfl (pc0 := 10) (pc' := 17) rfl (hb hby d1_10) rfl (Jvm.Free.XT.ii_ne_t hc3) (by decide) (by decide) k) ?_
      show own_G p e below _ T0 (mkF m 17 #[.val (.int k1)] [])
      refine own_go (fun t k => XS.iloadN X0.here hx rfl (hb hby d1_17) rfl k) ?_
      show own_G p e below _ T0 (mkF m 18 #[.val (.int k1)] [(.int k1)])
      refine own_go (fun t k => XS.iconst X0.here hx rfl (hb hby d1_18) k) ?_
      show own_G p e below _ T0 (mkF m 19 #[.val (.int k1)] [(.int (2 : Int32)), (.int k1)])
      by_cases hc5 : k1 = (2 : Int32)
      ·
        refine own_go (fun t k => XS.icmpNo X0.here hx rfl (hb hby d1_19) rfl (Jvm.Free.XT.ii_ne_f hc5) k) ?_
        show own_G p e below _ T0 (mkF m 22 #[.val (.int k1)] [])
        obtain ⟨T6, X6, e6, st6⟩ := getS X0 hx hZ hown (host := "") (hw _ (List.mem_of_getElem? (i := 29) rfl)) Via.refl e0 S_LESS (g := (mkF m 22 #[.val (.int k1)] [])) rfl (hb hby d1_22)
        refine own_go st6 ?_
        show own_G p e below _ T6 (mkF m 25 #[.val (.int k1)] [(.ref a_LESS)])
        exact own_retA X6 hx hlk hret rfl rfl (hb hby d1_25) (by decide) (by decide) ⟨congrArg some (congrArg Value.ref (Eq.symm (show (own_pick a_EQUAL a_LESS a_NOT_EQUAL a_GREATER a_GREATER_OR_EQUAL a_LESS_OR_EQUAL k1) = a_LESS from (by unfold own_pick; rw [if_neg hc1, if_neg hc3, if_pos hc5])))), rfl, e6⟩
      ·
        refine own_go (fun t k => XS.icmpYes X0.here hx rfl (pc0 := 19) (pc' := 26) rfl (hb hby d1_19) rfl (Jvm.Free.XT.ii_ne_t hc5) (by decide) (by decide) k) ?_
        show own_G p e below _ T0 (mkF m 26 #[.val (.int k1)] [])
        refine own_go (fun t k => XS.iloadN X0.here hx rfl (hb hby d1_26) rfl k) ?_
        show own_G p e below _ T0 (mkF m 27 #[.val (.int k1)] [(.int k1)])
        refine own_go (fun t k => XS.iconst X0.here hx rfl (hb hby d1_27) k) ?_
        show own_G p e below _ T0 (mkF m 28 #[.val (.int k1)] [(.int (3 : Int32)), (.int k1)])
        by_cases hc7 : k1 = (3 : Int32)
        ·
          refine own_go (fun t k => XS.icmpNo X0.here hx rfl (hb hby d1_28) rfl (Jvm.Free.XT.ii_ne_f hc7) k) ?_
          show own_G p e below _ T0 (mkF m 31 #[.val (.int k1)] [])
          obtain ⟨T8, X8, e8, st8⟩ := getS X0 hx hZ hown (host := "") (hw _ (List.mem_of_getElem? (i := 38) rfl)) Via.refl e0 S_LESS_OR_EQUAL (g := (mkF m 31 #[.val (.int k1)] [])) rfl (hb hby d1_31)
          refine own_go st8 ?_
          show own_G p e below _ T8 (mkF m 34 #[.val (.int k1)] [(.ref a_LESS_OR_EQUAL)])
          exact own_retA X8 hx hlk hret rfl rfl (hb hby d1_34) (by decide) (by decide) ⟨congrArg some (congrArg Value.ref (Eq.symm (show (own_pick a_EQUAL a_LESS a_NOT_EQUAL a_GREATER a_GREATER_OR_EQUAL a_LESS_OR_EQUAL k1) = a_LESS_OR_EQUAL from (by unfold own_pick; rw [if_neg hc1, if_neg hc3, if_neg hc5, if_pos hc7])))), rfl, e8⟩
        ·
          refine own_go (fun t k => XS.icmpYes X0.here hx rfl (pc0 := 28) (pc' := 35) rfl (hb hby d1_28) rfl (Jvm.Free.XT.ii_ne_t hc7) (by decide) (by decide) k) ?_
          show own_G p e below _ T0 (mkF m 35 #[.val (.int k1)] [])
          refine own_go (fun t k => XS.iloadN X0.here hx rfl (hb hby d1_35) rfl k) ?_
          show own_G p e below _ T0 (mkF m 36 #[.val (.int k1)] [(.int k1)])
          refine own_go (fun t k => XS.iconst X0.here hx rfl (hb hby d1_36) k) ?_
          show own_G p e below _ T0 (mkF m 37 #[.val (.int k1)] [(.int (4 : Int32)), (.int k1)])
          by_cases hc9 : k1 = (4 : Int32)
          ·
            refine own_go (fun t k => XS.icmpNo X0.here hx rfl (hb hby d1_37) rfl (Jvm.Free.XT.ii_ne_f hc9) k) ?_
            show own_G p e below _ T0 (mkF m 40 #[.val (.int k1)] [])
            obtain ⟨T10, X10, e10, st10⟩ := getS X0 hx hZ hown (host := "") (hw _ (List.mem_of_getElem? (i := 33) rfl)) Via.refl e0 S_GREATER (g := (mkF m 40 #[.val (.int k1)] [])) rfl (hb hby d1_40)
            refine own_go st10 ?_
            show own_G p e below _ T10 (mkF m 43 #[.val (.int k1)] [(.ref a_GREATER)])
            exact own_retA X10 hx hlk hret rfl rfl (hb hby d1_43) (by decide) (by decide) ⟨congrArg some (congrArg Value.ref (Eq.symm (show (own_pick a_EQUAL a_LESS a_NOT_EQUAL a_GREATER a_GREATER_OR_EQUAL a_LESS_OR_EQUAL k1) = a_GREATER from (by unfold own_pick; rw [if_neg hc1, if_neg hc3, if_neg hc5, if_neg hc7, if_pos hc9])))), rfl, e10⟩
          ·
            refine own_go (fun t k => XS.icmpYes X0.here hx rfl (pc0 := 37) (pc' := 44) rfl (hb hby d1_37) rfl (Jvm.Free.XT.ii_ne_t hc9) (by decide) (by decide) k) ?_
            show own_G p e below _ T0 (mkF m 44 #[.val (.int k1)] [])
            obtain ⟨T11, X11, e11, st11⟩ := getS X0 hx hZ hown (host := "") (hw _ (List.mem_of_getElem? (i := 36) rfl)) Via.refl e0 S_GREATER_OR_EQUAL (g := (mkF m 44 #[.val (.int k1)] [])) rfl (hb hby d1_44)
            refine own_go st11 ?_
            show own_G p e below _ T11 (mkF m 47 #[.val (.int k1)] [(.ref a_GREATER_OR_EQUAL)])
            exact own_retA X11 hx hlk hret rfl rfl (hb hby d1_47) (by decide) (by decide) ⟨congrArg some (congrArg Value.ref (Eq.symm (show (own_pick a_EQUAL a_LESS a_NOT_EQUAL a_GREATER a_GREATER_OR_EQUAL a_LESS_OR_EQUAL k1) = a_GREATER_OR_EQUAL from (by unfold own_pick; rw [if_neg hc1, if_neg hc3, if_neg hc5, if_neg hc7, if_neg hc9])))), rfl, e11⟩
def own_ord  (a1 : Addr) (w1 : Int32) : Int32 := w1
theorem d3_0 : decode jdk_37_method_2_code 0 = .ok (.aload_n 0, 1) := by decide +kernel
theorem d3_1 : decode jdk_37_method_2_code 1 = .ok (.getfield 7, 3) := by decide +kernel
theorem d3_4 : decode jdk_37_method_2_code 4 = .ok (.ireturn, 1) := by decide +kernel
theorem pn_3 : plainFor (⟨"java/lang/Enum", "ordinal", "()I"⟩ : MethodName) = true := by first | exact plainFor_of_name (by first | (simp [plainName, overriddenIn]; done) | decide +kernel) | decide +kernel
set_option maxRecDepth 65536 in
set_option maxHeartbeats 40000000 in
theorem c_ord (l : Launch) (Z : State) (a0 : Array Value) (hw : ∀ d ∈ tables_1, d.before a0 Z = true)  (a1 : Addr) (w1 : Int32) (h0 : Heap)  (F_a1_ordinal : Fld Z h0 a1 "java/lang/Enum" "ordinal" "I" (.int w1)) :
    own_M l Z (⟨"java/lang/Enum", "ordinal", "()I"⟩ : MethodName) jdk_37_method_2_code 1 (some .int) ⟨0, 0, 0, 0⟩ #[.ref a1] h0 (fun v h L => v = some (.int (own_ord a1 w1)) ∧ L = [] ∧ h = h0) := by
  refine own_body pn_3 ?_
  intro p e s m below meth c T0 hx hby hml hlk hown hret hnm hZ X0 e0
  replace hown : s.vm.findClass "java/lang/Enum" = some m.cls := hown
  replace hml : c.maxLocals = 1 := hml
  have ef : entryFrame m #[.ref a1] 1 = (mkF m 0 #[.val (.ref a1)] []) := by first | (simp [entryFrame, mkF, argsToLocals, Value.category]; done) | rfl
  rw [ef]
  refine own_go (fun t k => XS.aloadN X0.here hx rfl (hb hby d3_0) rfl rfl k) ?_
  show own_G p e below _ T0 (mkF m 1 #[.val (.ref a1)] [(.ref a1)])
  obtain ⟨T1, X1, e1, st1⟩ := getF X0 hx hZ hown (host := "") (Or.inl (hw _ (List.mem_of_getElem? (i := 21) rfl))) Via.refl e0 F_a1_ordinal (g := (mkF m 1 #[.val (.ref a1)] [(.ref a1)])) rfl rfl (hb hby d3_1)
  refine own_go st1 ?_
  show own_G p e below _ T1 (mkF m 4 #[.val (.ref a1)] [(.int w1)])
  exact own_retI X1 hx hlk hret (hb hby d3_4) (by decide) (by decide) ⟨rfl, rfl, e1⟩
def own_holds0  (a1 : Addr) (x1 : Int32) : Int32 := (if x1 = (0 : Int32) then (nar .boolean (1 : Int32)) else (nar .boolean (0 : Int32)))
theorem d2_0 : decode prog_69_method_6_code 0 = .ok (.aload_n 0, 1) := by decide +kernel
theorem d2_1 : decode prog_69_method_6_code 1 = .ok (.invokevirtual 45, 3) := by decide +kernel
theorem d2_4 : decode prog_69_method_6_code 4 = .ok (.tableswitch 40 0 5 #[50, 62, 74, 86, 98, 110], 40) := by decide +kernel
theorem d2_54 : decode prog_69_method_6_code 54 = .ok (.iload_n 1, 1) := by decide +kernel
theorem d2_55 : decode prog_69_method_6_code 55 = .ok (.ifCond .ne 7, 3) := by decide +kernel
theorem d2_58 : decode prog_69_method_6_code 58 = .ok (.iconst 1, 1) := by decide +kernel
theorem d2_59 : decode prog_69_method_6_code 59 = .ok (.goto 64, 3) := by decide +kernel
theorem d2_62 : decode prog_69_method_6_code 62 = .ok (.iconst 0, 1) := by decide +kernel
theorem d2_63 : decode prog_69_method_6_code 63 = .ok (.goto 60, 3) := by decide +kernel
theorem d2_123 : decode prog_69_method_6_code 123 = .ok (.ireturn, 1) := by decide +kernel
theorem pn_2 : plainFor (⟨"com/example/quern/quern/query/ComparisonOperator", "holds", "(I)Z"⟩ : MethodName) = true := by first | exact plainFor_of_name (by first | (simp [plainName, overriddenIn]; done) | decide +kernel) | decide +kernel
set_option maxRecDepth 65536 in
set_option maxHeartbeats 40000000 in
theorem c_holds0 (l : Launch) (Z : State) (a0 : Array Value) (hw : ∀ d ∈ tables_1, d.before a0 Z = true)  (a1 : Addr) (x1 : Int32) (h0 : Heap)  (F_a1_ordinal : Fld Z h0 a1 "java/lang/Enum" "ordinal" "I" (.int (0 : Int32))) (E_a1 : Exa Z h0 a1 "com/example/quern/quern/query/ComparisonOperator") :
    own_M l Z (⟨"com/example/quern/quern/query/ComparisonOperator", "holds", "(I)Z"⟩ : MethodName) prog_69_method_6_code 2 (some .boolean) ⟨1, 0, 0, 20⟩ #[.ref a1, .int x1] h0 (fun v h L => v = some (.int (own_holds0 a1 x1)) ∧ L = [] ∧ h = h0) := by
  refine own_body pn_2 ?_
  intro p e s m below meth c T0 hx hby hml hlk hown hret hnm hZ X0 e0
  replace hown : s.vm.findClass "com/example/quern/quern/query/ComparisonOperator" = some m.cls := hown
  replace hml : c.maxLocals = 2 := hml
  have ef : entryFrame m #[.ref a1, .int x1] 2 = (mkF m 0 #[.val (.ref a1), .val (.int x1)] []) := by first | (simp [entryFrame, mkF, argsToLocals, Value.category]; done) | rfl
  rw [ef]
  refine own_go (fun t k => XS.aloadN X0.here hx rfl (hb hby d2_0) rfl rfl k) ?_
  show own_G p e below _ T0 (mkF m 1 #[.val (.ref a1), .val (.int x1)] [(.ref a1)])
  obtain ⟨T1, L1, v1, X1, ⟨rfl, rfl, q1⟩, st1⟩ := own_callU X0 hx hZ (owner := "java/lang/Enum") (y := (⟨"com/example/quern/quern/query/ComparisonOperator", "ordinal", "()I"⟩ : MethodName)) (z := (⟨"java/lang/Enum", "ordinal", "()I"⟩ : MethodName)) hown (hw _ (List.mem_of_getElem? (i := 14) rfl)) (hw _ (List.mem_of_getElem? (i := 15) rfl)) (hw _ (List.mem_of_getElem? (i := 16) rfl)) (hw _ (List.mem_of_getElem? (i := 18) rfl)) (hw _ (List.mem_of_getElem? (i := 17) rfl)) (hw _ (List.mem_of_getElem? (i := 20) rfl)) (hw _ (List.mem_of_getElem? (i := 19) rfl)) (by decide) (c_ord l Z a0 hw a1 (0 : Int32) h0  F_a1_ordinal) e0 E_a1 (argsL := []) (rest := []) (g := (mkF m 1 #[.val (.ref a1), .val (.int x1)] [(.ref a1)])) rfl (by rw [hml]; rfl) (ps := []) (r := (some .int)) (by decide +kernel) rfl rfl (W := 0) (by show 2 * 0 + _ ≤ _; exact Nat.le_of_eq rfl) (hb hby d2_1) (by decide) (by decide) (by decide) (by decide)
  refine own_go st1 ?_
  show own_G p e below _ T1 (mkF m 4 #[.val (.ref a1), .val (.int x1)] [(.int (own_ord a1 (0 : Int32)))])
  have r1 : (own_ord a1 (0 : Int32)) = (0 : Int32) := by unfold own_ord; rfl
  rw [r1]
  show own_G p e below _ T1 (mkF m 4 #[.val (.ref a1), .val (.int x1)] [(.int (0 : Int32))])
  refine own_go (fun t k => XS.tswIn X1.here hx rfl (pc0 := 4) (pc' := 54) rfl (hb hby d2_4) rfl (by decide) (o := 50) (by decide) (by decide) (by decide) k) ?_
  show own_G p e below _ T1 (mkF m 54 #[.val (.ref a1), .val (.int x1)] [])
  refine own_go (fun t k => XS.iloadN X1.here hx rfl (hb hby d2_54) rfl k) ?_
  show own_G p e below _ T1 (mkF m 55 #[.val (.ref a1), .val (.int x1)] [(.int x1)])
  by_cases hc2 : x1 = (0 : Int32)
  ·
    refine own_go (fun t k => XS.ifNo X1.here hx rfl (hb hby d2_55) rfl (Jvm.Free.XT.i0_ne_f hc2) k) ?_
    show own_G p e below _ T1 (mkF m 58 #[.val (.ref a1), .val (.int x1)] [])
    refine own_go (fun t k => XS.iconst X1.here hx rfl (hb hby d2_58) k) ?_
    show own_G p e below _ T1 (mkF m 59 #[.val (.ref a1), .val (.int x1)] [(.int (1 : Int32))])
    refine own_go (fun t k => XS.goto X1.here hx rfl (pc0 := 59) (pc' := 123) rfl (hb hby d2_59) (by decide) (by decide) k) ?_
    show own_G p e below _ T1 (mkF m 123 #[.val (.ref a1), .val (.int x1)] [(.int (1 : Int32))])
    exact own_retN X1 hx hlk hret (by simp) (hb hby d2_123) (by decide) (by decide) ⟨congrArg some (congrArg Value.int (Eq.symm (show (own_holds0 a1 x1) = (nar .boolean (1 : Int32)) from (by unfold own_holds0; rw [if_pos hc2])))), rfl, q1⟩
  ·
    refine own_go (fun t k => XS.ifYes X1.here hx rfl (pc0 := 55) (pc' := 62) rfl (hb hby d2_55) rfl (Jvm.Free.XT.i0_ne_t hc2) (by decide) (by decide) k) ?_
    show own_G p e below _ T1 (mkF m 62 #[.val (.ref a1), .val (.int x1)] [])
    refine own_go (fun t k => XS.iconst X1.here hx rfl (hb hby d2_62) k) ?_
    show own_G p e below _ T1 (mkF m 63 #[.val (.ref a1), .val (.int x1)] [(.int (0 : Int32))])
    refine own_go (fun t k => XS.goto X1.here hx rfl (pc0 := 63) (pc' := 123) rfl (hb hby d2_63) (by decide) (by decide) k) ?_
    show own_G p e below _ T1 (mkF m 123 #[.val (.ref a1), .val (.int x1)] [(.int (0 : Int32))])
    exact own_retN X1 hx hlk hret (by simp) (hb hby d2_123) (by decide) (by decide) ⟨congrArg some (congrArg Value.int (Eq.symm (show (own_holds0 a1 x1) = (nar .boolean (0 : Int32)) from (by unfold own_holds0; rw [if_neg hc2])))), rfl, q1⟩
def own_holds1  (a1 : Addr) (x1 : Int32) : Int32 := (if x1 = (0 : Int32) then (nar .boolean (0 : Int32)) else (nar .boolean (1 : Int32)))
theorem d2_66 : decode prog_69_method_6_code 66 = .ok (.iload_n 1, 1) := by decide +kernel
theorem d2_67 : decode prog_69_method_6_code 67 = .ok (.ifCond .eq 7, 3) := by decide +kernel
theorem d2_70 : decode prog_69_method_6_code 70 = .ok (.iconst 1, 1) := by decide +kernel
theorem d2_71 : decode prog_69_method_6_code 71 = .ok (.goto 52, 3) := by decide +kernel
theorem d2_74 : decode prog_69_method_6_code 74 = .ok (.iconst 0, 1) := by decide +kernel
theorem d2_75 : decode prog_69_method_6_code 75 = .ok (.goto 48, 3) := by decide +kernel
set_option maxRecDepth 65536 in
set_option maxHeartbeats 40000000 in
theorem c_holds1 (l : Launch) (Z : State) (a0 : Array Value) (hw : ∀ d ∈ tables_1, d.before a0 Z = true)  (a1 : Addr) (x1 : Int32) (h0 : Heap)  (F_a1_ordinal : Fld Z h0 a1 "java/lang/Enum" "ordinal" "I" (.int (1 : Int32))) (E_a1 : Exa Z h0 a1 "com/example/quern/quern/query/ComparisonOperator") :
    own_M l Z (⟨"com/example/quern/quern/query/ComparisonOperator", "holds", "(I)Z"⟩ : MethodName) prog_69_method_6_code 2 (some .boolean) ⟨1, 0, 0, 20⟩ #[.ref a1, .int x1] h0 (fun v h L => v = some (.int (own_holds1 a1 x1)) ∧ L = [] ∧ h = h0) := by
  refine own_body pn_2 ?_
  intro p e s m below meth c T0 hx hby hml hlk hown hret hnm hZ X0 e0
  replace hown : s.vm.findClass "com/example/quern/quern/query/ComparisonOperator" = some m.cls := hown
  replace hml : c.maxLocals = 2 := hml
  have ef : entryFrame m #[.ref a1, .int x1] 2 = (mkF m 0 #[.val (.ref a1), .val (.int x1)] []) := by first | (simp [entryFrame, mkF, argsToLocals, Value.category]; done) | rfl
  rw [ef]
  refine own_go (fun t k => XS.aloadN X0.here hx rfl (hb hby d2_0) rfl rfl k) ?_
  show own_G p e below _ T0 (mkF m 1 #[.val (.ref a1), .val (.int x1)] [(.ref a1)])
  obtain ⟨T1, L1, v1, X1, ⟨rfl, rfl, q1⟩, st1⟩ := own_callU X0 hx hZ (owner := "java/lang/Enum") (y := (⟨"com/example/quern/quern/query/ComparisonOperator", "ordinal", "()I"⟩ : MethodName)) (z := (⟨"java/lang/Enum", "ordinal", "()I"⟩ : MethodName)) hown (hw _ (List.mem_of_getElem? (i := 14) rfl)) (hw _ (List.mem_of_getElem? (i := 15) rfl)) (hw _ (List.mem_of_getElem? (i := 16) rfl)) (hw _ (List.mem_of_getElem? (i := 18) rfl)) (hw _ (List.mem_of_getElem? (i := 17) rfl)) (hw _ (List.mem_of_getElem? (i := 20) rfl)) (hw _ (List.mem_of_getElem? (i := 19) rfl)) (by decide) (c_ord l Z a0 hw a1 (1 : Int32) h0  F_a1_ordinal) e0 E_a1 (argsL := []) (rest := []) (g := (mkF m 1 #[.val (.ref a1), .val (.int x1)] [(.ref a1)])) rfl (by rw [hml]; rfl) (ps := []) (r := (some .int)) (by decide +kernel) rfl rfl (W := 0) (by show 2 * 0 + _ ≤ _; exact Nat.le_of_eq rfl) (hb hby d2_1) (by decide) (by decide) (by decide) (by decide)
  refine own_go st1 ?_
  show own_G p e below _ T1 (mkF m 4 #[.val (.ref a1), .val (.int x1)] [(.int (own_ord a1 (1 : Int32)))])
  have r1 : (own_ord a1 (1 : Int32)) = (1 : Int32) := by unfold own_ord; rfl
  rw [r1]
  show own_G p e below _ T1 (mkF m 4 #[.val (.ref a1), .val (.int x1)] [(.int (1 : Int32))])
  refine own_go (fun t k => XS.tswIn X1.here hx rfl (pc0 := 4) (pc' := 66) rfl (hb hby d2_4) rfl (by decide) (o := 62) (by decide) (by decide) (by decide) k) ?_
  show own_G p e below _ T1 (mkF m 66 #[.val (.ref a1), .val (.int x1)] [])
  refine own_go (fun t k => XS.iloadN X1.here hx rfl (hb hby d2_66) rfl k) ?_
  show own_G p e below _ T1 (mkF m 67 #[.val (.ref a1), .val (.int x1)] [(.int x1)])
  by_cases hc2 : x1 = (0 : Int32)
  ·
    refine own_go (fun t k => XS.ifYes X1.here hx rfl (pc0 := 67) (pc' := 74) rfl (hb hby d2_67) rfl (Jvm.Free.XT.i0_eq_t hc2) (by decide) (by decide) k) ?_
    show own_G p e below _ T1 (mkF m 74 #[.val (.ref a1), .val (.int x1)] [])
    refine own_go (fun t k => XS.iconst X1.here hx rfl (hb hby d2_74) k) ?_
    show own_G p e below _ T1 (mkF m 75 #[.val (.ref a1), .val (.int x1)] [(.int (0 : Int32))])
    refine own_go (fun t k => XS.goto X1.here hx rfl (pc0 := 75) (pc' := 123) rfl (hb hby d2_75) (by decide) (by decide) k) ?_
    show own_G p e below _ T1 (mkF m 123 #[.val (.ref a1), .val (.int x1)] [(.int (0 : Int32))])
    exact own_retN X1 hx hlk hret (by simp) (hb hby d2_123) (by decide) (by decide) ⟨congrArg some (congrArg Value.int (Eq.symm (show (own_holds1 a1 x1) = (nar .boolean (0 : Int32)) from (by unfold own_holds1; rw [if_pos hc2])))), rfl, q1⟩
  ·
    refine own_go (fun t k => XS.ifNo X1.here hx rfl (hb hby d2_67) rfl (Jvm.Free.XT.i0_eq_f hc2) k) ?_
    show own_G p e below _ T1 (mkF m 70 #[.val (.ref a1), .val (.int x1)] [])
    refine own_go (fun t k => XS.iconst X1.here hx rfl (hb hby d2_70) k) ?_
    show own_G p e below _ T1 (mkF m 71 #[.val (.ref a1), .val (.int x1)] [(.int (1 : Int32))])
    refine own_go (fun t k => XS.goto X1.here hx rfl (pc0 := 71) (pc' := 123) rfl (hb hby d2_71) (by decide) (by decide) k) ?_
    show own_G p e below _ T1 (mkF m 123 #[.val (.ref a1), .val (.int x1)] [(.int (1 : Int32))])
    exact own_retN X1 hx hlk hret (by simp) (hb hby d2_123) (by decide) (by decide) ⟨congrArg some (congrArg Value.int (Eq.symm (show (own_holds1 a1 x1) = (nar .boolean (1 : Int32)) from (by unfold own_holds1; rw [if_neg hc2])))), rfl, q1⟩
def own_holds2  (a1 : Addr) (x1 : Int32) : Int32 := (if x1 < (0 : Int32) then (nar .boolean (1 : Int32)) else (nar .boolean (0 : Int32)))
theorem d2_78 : decode prog_69_method_6_code 78 = .ok (.iload_n 1, 1) := by decide +kernel
theorem d2_79 : decode prog_69_method_6_code 79 = .ok (.ifCond .ge 7, 3) := by decide +kernel
theorem d2_82 : decode prog_69_method_6_code 82 = .ok (.iconst 1, 1) := by decide +kernel
theorem d2_83 : decode prog_69_method_6_code 83 = .ok (.goto 40, 3) := by decide +kernel
theorem d2_86 : decode prog_69_method_6_code 86 = .ok (.iconst 0, 1) := by decide +kernel
theorem d2_87 : decode prog_69_method_6_code 87 = .ok (.goto 36, 3) := by decide +kernel
set_option maxRecDepth 65536 in
set_option maxHeartbeats 40000000 in
theorem c_holds2 (l : Launch) (Z : State) (a0 : Array Value) (hw : ∀ d ∈ tables_1, d.before a0 Z = true)  (a1 : Addr) (x1 : Int32) (h0 : Heap)  (F_a1_ordinal : Fld Z h0 a1 "java/lang/Enum" "ordinal" "I" (.int (2 : Int32))) (E_a1 : Exa Z h0 a1 "com/example/quern/quern/query/ComparisonOperator") :
    own_M l Z (⟨"com/example/quern/quern/query/ComparisonOperator", "holds", "(I)Z"⟩ : MethodName) prog_69_method_6_code 2 (some .boolean) ⟨1, 0, 0, 20⟩ #[.ref a1, .int x1] h0 (fun v h L => v = some (.int (own_holds2 a1 x1)) ∧ L = [] ∧ h = h0) := by
  refine own_body pn_2 ?_
  intro p e s m below meth c T0 hx hby hml hlk hown hret hnm hZ X0 e0
  replace hown : s.vm.findClass "com/example/quern/quern/query/ComparisonOperator" = some m.cls := hown
  replace hml : c.maxLocals = 2 := hml
  have ef : entryFrame m #[.ref a1, .int x1] 2 = (mkF m 0 #[.val (.ref a1), .val (.int x1)] []) := by first | (simp [entryFrame, mkF, argsToLocals, Value.category]; done) | rfl
  rw [ef]
  refine own_go (fun t k => XS.aloadN X0.here hx rfl (hb hby d2_0) rfl rfl k) ?_
  show own_G p e below _ T0 (mkF m 1 #[.val (.ref a1), .val (.int x1)] [(.ref a1)])
  obtain ⟨T1, L1, v1, X1, ⟨rfl, rfl, q1⟩, st1⟩ := own_callU X0 hx hZ (owner := "java/lang/Enum") (y := (⟨"com/example/quern/quern/query/ComparisonOperator", "ordinal", "()I"⟩ : MethodName)) (z := (⟨"java/lang/Enum", "ordinal", "()I"⟩ : MethodName)) hown (hw _ (List.mem_of_getElem? (i := 14) rfl)) (hw _ (List.mem_of_getElem? (i := 15) rfl)) (hw _ (List.mem_of_getElem? (i := 16) rfl)) (hw _ (List.mem_of_getElem? (i := 18) rfl)) (hw _ (List.mem_of_getElem? (i := 17) rfl)) (hw _ (List.mem_of_getElem? (i := 20) rfl)) (hw _ (List.mem_of_getElem? (i := 19) rfl)) (by decide) (c_ord l Z a0 hw a1 (2 : Int32) h0  F_a1_ordinal) e0 E_a1 (argsL := []) (rest := []) (g := (mkF m 1 #[.val (.ref a1), .val (.int x1)] [(.ref a1)])) rfl (by rw [hml]; rfl) (ps := []) (r := (some .int)) (by decide +kernel) rfl rfl (W := 0) (by show 2 * 0 + _ ≤ _; exact Nat.le_of_eq rfl) (hb hby d2_1) (by decide) (by decide) (by decide) (by decide)
  refine own_go st1 ?_
  show own_G p e below _ T1 (mkF m 4 #[.val (.ref a1), .val (.int x1)] [(.int (own_ord a1 (2 : Int32)))])
  have r1 : (own_ord a1 (2 : Int32)) = (2 : Int32) := by unfold own_ord; rfl
  rw [r1]
  show own_G p e below _ T1 (mkF m 4 #[.val (.ref a1), .val (.int x1)] [(.int (2 : Int32))])
  refine own_go (fun t k => XS.tswIn X1.here hx rfl (pc0 := 4) (pc' := 78) rfl (hb hby d2_4) rfl (by decide) (o := 74) (by decide) (by decide) (by decide) k) ?_
  show own_G p e below _ T1 (mkF m 78 #[.val (.ref a1), .val (.int x1)] [])
  refine own_go (fun t k => XS.iloadN X1.here hx rfl (hb hby d2_78) rfl k) ?_
  show own_G p e below _ T1 (mkF m 79 #[.val (.ref a1), .val (.int x1)] [(.int x1)])
  by_cases hc2 : x1 < (0 : Int32)
  ·
    refine own_go (fun t k => XS.ifNo X1.here hx rfl (hb hby d2_79) rfl (Jvm.Free.XT.i0_ge_f hc2) k) ?_
    show own_G p e below _ T1 (mkF m 82 #[.val (.ref a1), .val (.int x1)] [])
    refine own_go (fun t k => XS.iconst X1.here hx rfl (hb hby d2_82) k) ?_
    show own_G p e below _ T1 (mkF m 83 #[.val (.ref a1), .val (.int x1)] [(.int (1 : Int32))])
    refine own_go (fun t k => XS.goto X1.here hx rfl (pc0 := 83) (pc' := 123) rfl (hb hby d2_83) (by decide) (by decide) k) ?_
    show own_G p e below _ T1 (mkF m 123 #[.val (.ref a1), .val (.int x1)] [(.int (1 : Int32))])
    exact own_retN X1 hx hlk hret (by simp) (hb hby d2_123) (by decide) (by decide) ⟨congrArg some (congrArg Value.int (Eq.symm (show (own_holds2 a1 x1) = (nar .boolean (1 : Int32)) from (by unfold own_holds2; rw [if_pos hc2])))), rfl, q1⟩
  ·
    refine own_go (fun t k => XS.ifYes X1.here hx rfl (pc0 := 79) (pc' := 86) rfl (hb hby d2_79) rfl (Jvm.Free.XT.i0_ge_t hc2) (by decide) (by decide) k) ?_
    show own_G p e below _ T1 (mkF m 86 #[.val (.ref a1), .val (.int x1)] [])
    refine own_go (fun t k => XS.iconst X1.here hx rfl (hb hby d2_86) k) ?_
    show own_G p e below _ T1 (mkF m 87 #[.val (.ref a1), .val (.int x1)] [(.int (0 : Int32))])
    refine own_go (fun t k => XS.goto X1.here hx rfl (pc0 := 87) (pc' := 123) rfl (hb hby d2_87) (by decide) (by decide) k) ?_
    show own_G p e below _ T1 (mkF m 123 #[.val (.ref a1), .val (.int x1)] [(.int (0 : Int32))])
    exact own_retN X1 hx hlk hret (by simp) (hb hby d2_123) (by decide) (by decide) ⟨congrArg some (congrArg Value.int (Eq.symm (show (own_holds2 a1 x1) = (nar .boolean (0 : Int32)) from (by unfold own_holds2; rw [if_neg hc2])))), rfl, q1⟩
def own_holds3  (a1 : Addr) (x1 : Int32) : Int32 := (if (0 : Int32) < x1 then (nar .boolean (0 : Int32)) else (nar .boolean (1 : Int32)))
theorem d2_90 : decode prog_69_method_6_code 90 = .ok (.iload_n 1, 1) := by decide +kernel
theorem d2_91 : decode prog_69_method_6_code 91 = .ok (.ifCond .gt 7, 3) := by decide +kernel
theorem d2_94 : decode prog_69_method_6_code 94 = .ok (.iconst 1, 1) := by decide +kernel
theorem d2_95 : decode prog_69_method_6_code 95 = .ok (.goto 28, 3) := by decide +kernel
theorem d2_98 : decode prog_69_method_6_code 98 = .ok (.iconst 0, 1) := by decide +kernel
theorem d2_99 : decode prog_69_method_6_code 99 = .ok (.goto 24, 3) := by decide +kernel
set_option maxRecDepth 65536 in
set_option maxHeartbeats 40000000 in
theorem c_holds3 (l : Launch) (Z : State) (a0 : Array Value) (hw : ∀ d ∈ tables_1, d.before a0 Z = true)  (a1 : Addr) (x1 : Int32) (h0 : Heap)  (F_a1_ordinal : Fld Z h0 a1 "java/lang/Enum" "ordinal" "I" (.int (3 : Int32))) (E_a1 : Exa Z h0 a1 "com/example/quern/quern/query/ComparisonOperator") :
    own_M l Z (⟨"com/example/quern/quern/query/ComparisonOperator", "holds", "(I)Z"⟩ : MethodName) prog_69_method_6_code 2 (some .boolean) ⟨1, 0, 0, 20⟩ #[.ref a1, .int x1] h0 (fun v h L => v = some (.int (own_holds3 a1 x1)) ∧ L = [] ∧ h = h0) := by
  refine own_body pn_2 ?_
  intro p e s m below meth c T0 hx hby hml hlk hown hret hnm hZ X0 e0
  replace hown : s.vm.findClass "com/example/quern/quern/query/ComparisonOperator" = some m.cls := hown
  replace hml : c.maxLocals = 2 := hml
  have ef : entryFrame m #[.ref a1, .int x1] 2 = (mkF m 0 #[.val (.ref a1), .val (.int x1)] []) := by first | (simp [entryFrame, mkF, argsToLocals, Value.category]; done) | rfl
  rw [ef]
  refine own_go (fun t k => XS.aloadN X0.here hx rfl (hb hby d2_0) rfl rfl k) ?_
  show own_G p e below _ T0 (mkF m 1 #[.val (.ref a1), .val (.int x1)] [(.ref a1)])
  obtain ⟨T1, L1, v1, X1, ⟨rfl, rfl, q1⟩, st1⟩ := own_callU X0 hx hZ (owner := "java/lang/Enum") (y := (⟨"com/example/quern/quern/query/ComparisonOperator", "ordinal", "()I"⟩ : MethodName)) (z := (⟨"java/lang/Enum", "ordinal", "()I"⟩ : MethodName)) hown (hw _ (List.mem_of_getElem? (i := 14) rfl)) (hw _ (List.mem_of_getElem? (i := 15) rfl)) (hw _ (List.mem_of_getElem? (i := 16) rfl)) (hw _ (List.mem_of_getElem? (i := 18) rfl)) (hw _ (List.mem_of_getElem? (i := 17) rfl)) (hw _ (List.mem_of_getElem? (i := 20) rfl)) (hw _ (List.mem_of_getElem? (i := 19) rfl)) (by decide) (c_ord l Z a0 hw a1 (3 : Int32) h0  F_a1_ordinal) e0 E_a1 (argsL := []) (rest := []) (g := (mkF m 1 #[.val (.ref a1), .val (.int x1)] [(.ref a1)])) rfl (by rw [hml]; rfl) (ps := []) (r := (some .int)) (by decide +kernel) rfl rfl (W := 0) (by show 2 * 0 + _ ≤ _; exact Nat.le_of_eq rfl) (hb hby d2_1) (by decide) (by decide) (by decide) (by decide)
  refine own_go st1 ?_
  show own_G p e below _ T1 (mkF m 4 #[.val (.ref a1), .val (.int x1)] [(.int (own_ord a1 (3 : Int32)))])
  have r1 : (own_ord a1 (3 : Int32)) = (3 : Int32) := by unfold own_ord; rfl
  rw [r1]
  show own_G p e below _ T1 (mkF m 4 #[.val (.ref a1), .val (.int x1)] [(.int (3 : Int32))])
  refine own_go (fun t k => XS.tswIn X1.here hx rfl (pc0 := 4) (pc' := 90) rfl (hb hby d2_4) rfl (by decide) (o := 86) (by decide) (by decide) (by decide) k) ?_
  show own_G p e below _ T1 (mkF m 90 #[.val (.ref a1), .val (.int x1)] [])
  refine own_go (fun t k => XS.iloadN X1.here hx rfl (hb hby d2_90) rfl k) ?_
  show own_G p e below _ T1 (mkF m 91 #[.val (.ref a1), .val (.int x1)] [(.int x1)])
  by_cases hc2 : (0 : Int32) < x1
  ·
    refine own_go (fun t k => XS.ifYes X1.here hx rfl (pc0 := 91) (pc' := 98) rfl (hb hby d2_91) rfl (Jvm.Free.XT.i0_gt_t hc2) (by decide) (by decide) k) ?_
    show own_G p e below _ T1 (mkF m 98 #[.val (.ref a1), .val (.int x1)] [])
    refine own_go (fun t k => XS.iconst X1.here hx rfl (hb hby d2_98) k) ?_
    show own_G p e below _ T1 (mkF m 99 #[.val (.ref a1), .val (.int x1)] [(.int (0 : Int32))])
    refine own_go (fun t k => XS.goto X1.here hx rfl (pc0 := 99) (pc' := 123) rfl (hb hby d2_99) (by decide) (by decide) k) ?_
    show own_G p e below _ T1 (mkF m 123 #[.val (.ref a1), .val (.int x1)] [(.int (0 : Int32))])
    exact own_retN X1 hx hlk hret (by simp) (hb hby d2_123) (by decide) (by decide) ⟨congrArg some (congrArg Value.int (Eq.symm (show (own_holds3 a1 x1) = (nar .boolean (0 : Int32)) from (by unfold own_holds3; rw [if_pos hc2])))), rfl, q1⟩
  ·
    refine own_go (fun t k => XS.ifNo X1.here hx rfl (hb hby d2_91) rfl (Jvm.Free.XT.i0_gt_f hc2) k) ?_
    show own_G p e below _ T1 (mkF m 94 #[.val (.ref a1), .val (.int x1)] [])
    refine own_go (fun t k => XS.iconst X1.here hx rfl (hb hby d2_94) k) ?_
    show own_G p e below _ T1 (mkF m 95 #[.val (.ref a1), .val (.int x1)] [(.int (1 : Int32))])
    refine own_go (fun t k => XS.goto X1.here hx rfl (pc0 := 95) (pc' := 123) rfl (hb hby d2_95) (by decide) (by decide) k) ?_
    show own_G p e below _ T1 (mkF m 123 #[.val (.ref a1), .val (.int x1)] [(.int (1 : Int32))])
    exact own_retN X1 hx hlk hret (by simp) (hb hby d2_123) (by decide) (by decide) ⟨congrArg some (congrArg Value.int (Eq.symm (show (own_holds3 a1 x1) = (nar .boolean (1 : Int32)) from (by unfold own_holds3; rw [if_neg hc2])))), rfl, q1⟩
def own_holds4  (a1 : Addr) (x1 : Int32) : Int32 := (if (0 : Int32) < x1 then (nar .boolean (1 : Int32)) else (nar .boolean (0 : Int32)))
theorem d2_102 : decode prog_69_method_6_code 102 = .ok (.iload_n 1, 1) := by decide +kernel
theorem d2_103 : decode prog_69_method_6_code 103 = .ok (.ifCond .le 7, 3) := by decide +kernel
theorem d2_106 : decode prog_69_method_6_code 106 = .ok (.iconst 1, 1) := by decide +kernel
theorem d2_107 : decode prog_69_method_6_code 107 = .ok (.goto 16, 3) := by decide +kernel
theorem d2_110 : decode prog_69_method_6_code 110 = .ok (.iconst 0, 1) := by decide +kernel
theorem d2_111 : decode prog_69_method_6_code 111 = .ok (.goto 12, 3) := by decide +kernel
set_option maxRecDepth 65536 in
set_option maxHeartbeats 40000000 in
theorem c_holds4 (l : Launch) (Z : State) (a0 : Array Value) (hw : ∀ d ∈ tables_1, d.before a0 Z = true)  (a1 : Addr) (x1 : Int32) (h0 : Heap)  (F_a1_ordinal : Fld Z h0 a1 "java/lang/Enum" "ordinal" "I" (.int (4 : Int32))) (E_a1 : Exa Z h0 a1 "com/example/quern/quern/query/ComparisonOperator") :
    own_M l Z (⟨"com/example/quern/quern/query/ComparisonOperator", "holds", "(I)Z"⟩ : MethodName) prog_69_method_6_code 2 (some .boolean) ⟨1, 0, 0, 20⟩ #[.ref a1, .int x1] h0 (fun v h L => v = some (.int (own_holds4 a1 x1)) ∧ L = [] ∧ h = h0) := by
  refine own_body pn_2 ?_
  intro p e s m below meth c T0 hx hby hml hlk hown hret hnm hZ X0 e0
  replace hown : s.vm.findClass "com/example/quern/quern/query/ComparisonOperator" = some m.cls := hown
  replace hml : c.maxLocals = 2 := hml
  have ef : entryFrame m #[.ref a1, .int x1] 2 = (mkF m 0 #[.val (.ref a1), .val (.int x1)] []) := by first | (simp [entryFrame, mkF, argsToLocals, Value.category]; done) | rfl
  rw [ef]
  refine own_go (fun t k => XS.aloadN X0.here hx rfl (hb hby d2_0) rfl rfl k) ?_
  show own_G p e below _ T0 (mkF m 1 #[.val (.ref a1), .val (.int x1)] [(.ref a1)])
  obtain ⟨T1, L1, v1, X1, ⟨rfl, rfl, q1⟩, st1⟩ := own_callU X0 hx hZ (owner := "java/lang/Enum") (y := (⟨"com/example/quern/quern/query/ComparisonOperator", "ordinal", "()I"⟩ : MethodName)) (z := (⟨"java/lang/Enum", "ordinal", "()I"⟩ : MethodName)) hown (hw _ (List.mem_of_getElem? (i := 14) rfl)) (hw _ (List.mem_of_getElem? (i := 15) rfl)) (hw _ (List.mem_of_getElem? (i := 16) rfl)) (hw _ (List.mem_of_getElem? (i := 18) rfl)) (hw _ (List.mem_of_getElem? (i := 17) rfl)) (hw _ (List.mem_of_getElem? (i := 20) rfl)) (hw _ (List.mem_of_getElem? (i := 19) rfl)) (by decide) (c_ord l Z a0 hw a1 (4 : Int32) h0  F_a1_ordinal) e0 E_a1 (argsL := []) (rest := []) (g := (mkF m 1 #[.val (.ref a1), .val (.int x1)] [(.ref a1)])) rfl (by rw [hml]; rfl) (ps := []) (r := (some .int)) (by decide +kernel) rfl rfl (W := 0) (by show 2 * 0 + _ ≤ _; exact Nat.le_of_eq rfl) (hb hby d2_1) (by decide) (by decide) (by decide) (by decide)
  refine own_go st1 ?_
  show own_G p e below _ T1 (mkF m 4 #[.val (.ref a1), .val (.int x1)] [(.int (own_ord a1 (4 : Int32)))])
  have r1 : (own_ord a1 (4 : Int32)) = (4 : Int32) := by unfold own_ord; rfl
  rw [r1]
  show own_G p e below _ T1 (mkF m 4 #[.val (.ref a1), .val (.int x1)] [(.int (4 : Int32))])
  refine own_go (fun t k => XS.tswIn X1.here hx rfl (pc0 := 4) (pc' := 102) rfl (hb hby d2_4) rfl (by decide) (o := 98) (by decide) (by decide) (by decide) k) ?_
  show own_G p e below _ T1 (mkF m 102 #[.val (.ref a1), .val (.int x1)] [])
  refine own_go (fun t k => XS.iloadN X1.here hx rfl (hb hby d2_102) rfl k) ?_
  show own_G p e below _ T1 (mkF m 103 #[.val (.ref a1), .val (.int x1)] [(.int x1)])
  by_cases hc2 : (0 : Int32) < x1
  ·
    refine own_go (fun t k => XS.ifNo X1.here hx rfl (hb hby d2_103) rfl (Jvm.Free.XT.i0_le_f hc2) k) ?_
    show own_G p e below _ T1 (mkF m 106 #[.val (.ref a1), .val (.int x1)] [])
    refine own_go (fun t k => XS.iconst X1.here hx rfl (hb hby d2_106) k) ?_
    show own_G p e below _ T1 (mkF m 107 #[.val (.ref a1), .val (.int x1)] [(.int (1 : Int32))])
    refine own_go (fun t k => XS.goto X1.here hx rfl (pc0 := 107) (pc' := 123) rfl (hb hby d2_107) (by decide) (by decide) k) ?_
    show own_G p e below _ T1 (mkF m 123 #[.val (.ref a1), .val (.int x1)] [(.int (1 : Int32))])
    exact own_retN X1 hx hlk hret (by simp) (hb hby d2_123) (by decide) (by decide) ⟨congrArg some (congrArg Value.int (Eq.symm (show (own_holds4 a1 x1) = (nar .boolean (1 : Int32)) from (by unfold own_holds4; rw [if_pos hc2])))), rfl, q1⟩
  ·
    refine own_go (fun t k => XS.ifYes X1.here hx rfl (pc0 := 103) (pc' := 110) rfl (hb hby d2_103) rfl (Jvm.Free.XT.i0_le_t hc2) (by decide) (by decide) k) ?_
    show own_G p e below _ T1 (mkF m 110 #[.val (.ref a1), .val (.int x1)] [])
    refine own_go (fun t k => XS.iconst X1.here hx rfl (hb hby d2_110) k) ?_
    show own_G p e below _ T1 (mkF m 111 #[.val (.ref a1), .val (.int x1)] [(.int (0 : Int32))])
    refine own_go (fun t k => XS.goto X1.here hx rfl (pc0 := 111) (pc' := 123) rfl (hb hby d2_111) (by decide) (by decide) k) ?_
    show own_G p e below _ T1 (mkF m 123 #[.val (.ref a1), .val (.int x1)] [(.int (0 : Int32))])
    exact own_retN X1 hx hlk hret (by simp) (hb hby d2_123) (by decide) (by decide) ⟨congrArg some (congrArg Value.int (Eq.symm (show (own_holds4 a1 x1) = (nar .boolean (0 : Int32)) from (by unfold own_holds4; rw [if_neg hc2])))), rfl, q1⟩
def own_holds5  (a1 : Addr) (x1 : Int32) : Int32 := (if x1 < (0 : Int32) then (nar .boolean (0 : Int32)) else (nar .boolean (1 : Int32)))
theorem d2_114 : decode prog_69_method_6_code 114 = .ok (.iload_n 1, 1) := by decide +kernel
theorem d2_115 : decode prog_69_method_6_code 115 = .ok (.ifCond .lt 7, 3) := by decide +kernel
theorem d2_118 : decode prog_69_method_6_code 118 = .ok (.iconst 1, 1) := by decide +kernel
theorem d2_119 : decode prog_69_method_6_code 119 = .ok (.goto 4, 3) := by decide +kernel
theorem d2_122 : decode prog_69_method_6_code 122 = .ok (.iconst 0, 1) := by decide +kernel
set_option maxRecDepth 65536 in
set_option maxHeartbeats 40000000 in
theorem c_holds5 (l : Launch) (Z : State) (a0 : Array Value) (hw : ∀ d ∈ tables_1, d.before a0 Z = true)  (a1 : Addr) (x1 : Int32) (h0 : Heap)  (F_a1_ordinal : Fld Z h0 a1 "java/lang/Enum" "ordinal" "I" (.int (5 : Int32))) (E_a1 : Exa Z h0 a1 "com/example/quern/quern/query/ComparisonOperator") :
    own_M l Z (⟨"com/example/quern/quern/query/ComparisonOperator", "holds", "(I)Z"⟩ : MethodName) prog_69_method_6_code 2 (some .boolean) ⟨1, 0, 0, 20⟩ #[.ref a1, .int x1] h0 (fun v h L => v = some (.int (own_holds5 a1 x1)) ∧ L = [] ∧ h = h0) := by
  refine own_body pn_2 ?_
  intro p e s m below meth c T0 hx hby hml hlk hown hret hnm hZ X0 e0
  replace hown : s.vm.findClass "com/example/quern/quern/query/ComparisonOperator" = some m.cls := hown
  replace hml : c.maxLocals = 2 := hml
  have ef : entryFrame m #[.ref a1, .int x1] 2 = (mkF m 0 #[.val (.ref a1), .val (.int x1)] []) := by first | (simp [entryFrame, mkF, argsToLocals, Value.category]; done) | rfl
  rw [ef]
  refine own_go (fun t k => XS.aloadN X0.here hx rfl (hb hby d2_0) rfl rfl k) ?_
  show own_G p e below _ T0 (mkF m 1 #[.val (.ref a1), .val (.int x1)] [(.ref a1)])
  obtain ⟨T1, L1, v1, X1, ⟨rfl, rfl, q1⟩, st1⟩ := own_callU X0 hx hZ (owner := "java/lang/Enum") (y := (⟨"com/example/quern/quern/query/ComparisonOperator", "ordinal", "()I"⟩ : MethodName)) (z := (⟨"java/lang/Enum", "ordinal", "()I"⟩ : MethodName)) hown (hw _ (List.mem_of_getElem? (i := 14) rfl)) (hw _ (List.mem_of_getElem? (i := 15) rfl)) (hw _ (List.mem_of_getElem? (i := 16) rfl)) (hw _ (List.mem_of_getElem? (i := 18) rfl)) (hw _ (List.mem_of_getElem? (i := 17) rfl)) (hw _ (List.mem_of_getElem? (i := 20) rfl)) (hw _ (List.mem_of_getElem? (i := 19) rfl)) (by decide) (c_ord l Z a0 hw a1 (5 : Int32) h0  F_a1_ordinal) e0 E_a1 (argsL := []) (rest := []) (g := (mkF m 1 #[.val (.ref a1), .val (.int x1)] [(.ref a1)])) rfl (by rw [hml]; rfl) (ps := []) (r := (some .int)) (by decide +kernel) rfl rfl (W := 0) (by show 2 * 0 + _ ≤ _; exact Nat.le_of_eq rfl) (hb hby d2_1) (by decide) (by decide) (by decide) (by decide)
  refine own_go st1 ?_
  show own_G p e below _ T1 (mkF m 4 #[.val (.ref a1), .val (.int x1)] [(.int (own_ord a1 (5 : Int32)))])
  have r1 : (own_ord a1 (5 : Int32)) = (5 : Int32) := by unfold own_ord; rfl
  rw [r1]
  show own_G p e below _ T1 (mkF m 4 #[.val (.ref a1), .val (.int x1)] [(.int (5 : Int32))])
  refine own_go (fun t k => XS.tswIn X1.here hx rfl (pc0 := 4) (pc' := 114) rfl (hb hby d2_4) rfl (by decide) (o := 110) (by decide) (by decide) (by decide) k) ?_
  show own_G p e below _ T1 (mkF m 114 #[.val (.ref a1), .val (.int x1)] [])
  refine own_go (fun t k => XS.iloadN X1.here hx rfl (hb hby d2_114) rfl k) ?_
  show own_G p e below _ T1 (mkF m 115 #[.val (.ref a1), .val (.int x1)] [(.int x1)])
  by_cases hc2 : x1 < (0 : Int32)
  ·
    refine own_go (fun t k => XS.ifYes X1.here hx rfl (pc0 := 115) (pc' := 122) rfl (hb hby d2_115) rfl (Jvm.Free.XT.i0_lt_t hc2) (by decide) (by decide) k) ?_
    show own_G p e below _ T1 (mkF m 122 #[.val (.ref a1), .val (.int x1)] [])
    refine own_go (fun t k => XS.iconst X1.here hx rfl (hb hby d2_122) k) ?_
    show own_G p e below _ T1 (mkF m 123 #[.val (.ref a1), .val (.int x1)] [(.int (0 : Int32))])
    exact own_retN X1 hx hlk hret (by simp) (hb hby d2_123) (by decide) (by decide) ⟨congrArg some (congrArg Value.int (Eq.symm (show (own_holds5 a1 x1) = (nar .boolean (0 : Int32)) from (by unfold own_holds5; rw [if_pos hc2])))), rfl, q1⟩
  ·
    refine own_go (fun t k => XS.ifNo X1.here hx rfl (hb hby d2_115) rfl (Jvm.Free.XT.i0_lt_f hc2) k) ?_
    show own_G p e below _ T1 (mkF m 118 #[.val (.ref a1), .val (.int x1)] [])
    refine own_go (fun t k => XS.iconst X1.here hx rfl (hb hby d2_118) k) ?_
    show own_G p e below _ T1 (mkF m 119 #[.val (.ref a1), .val (.int x1)] [(.int (1 : Int32))])
    refine own_go (fun t k => XS.goto X1.here hx rfl (pc0 := 119) (pc' := 123) rfl (hb hby d2_119) (by decide) (by decide) k) ?_
    show own_G p e below _ T1 (mkF m 123 #[.val (.ref a1), .val (.int x1)] [(.int (1 : Int32))])
    exact own_retN X1 hx hlk hret (by simp) (hb hby d2_123) (by decide) (by decide) ⟨congrArg some (congrArg Value.int (Eq.symm (show (own_holds5 a1 x1) = (nar .boolean (1 : Int32)) from (by unfold own_holds5; rw [if_neg hc2])))), rfl, q1⟩
def own_iso (a_EQUAL a_LESS a_NOT_EQUAL a_GREATER a_GREATER_OR_EQUAL a_LESS_OR_EQUAL : Addr) (a1 : Addr) : Int32 := (if a1 = a_EQUAL then (nar .boolean (0 : Int32)) else (if a1 = a_NOT_EQUAL then (nar .boolean (0 : Int32)) else (nar .boolean (1 : Int32))))
theorem d4_0 : decode prog_69_method_5_code 0 = .ok (.aload_n 0, 1) := by decide +kernel
theorem d4_1 : decode prog_69_method_5_code 1 = .ok (.getstatic 3, 3) := by decide +kernel
theorem d4_4 : decode prog_69_method_5_code 4 = .ok (.if_acmp .eq 14, 3) := by decide +kernel
theorem d4_7 : decode prog_69_method_5_code 7 = .ok (.aload_n 0, 1) := by decide +kernel
theorem d4_8 : decode prog_69_method_5_code 8 = .ok (.getstatic 7, 3) := by decide +kernel
theorem d4_11 : decode prog_69_method_5_code 11 = .ok (.if_acmp .eq 7, 3) := by decide +kernel
theorem d4_14 : decode prog_69_method_5_code 14 = .ok (.iconst 1, 1) := by decide +kernel
theorem d4_15 : decode prog_69_method_5_code 15 = .ok (.goto 4, 3) := by decide +kernel
theorem d4_18 : decode prog_69_method_5_code 18 = .ok (.iconst 0, 1) := by decide +kernel
theorem d4_19 : decode prog_69_method_5_code 19 = .ok (.ireturn, 1) := by decide +kernel
theorem pn_4 : plainFor (⟨"com/example/quern/quern/query/ComparisonOperator", "isOrdering", "()Z"⟩ : MethodName) = true := by first | exact plainFor_of_name (by first | (simp [plainName, overriddenIn]; done) | decide +kernel) | decide +kernel
set_option maxRecDepth 65536 in
set_option maxHeartbeats 40000000 in
theorem c_iso (l : Launch) (Z : State) (a0 : Array Value) (hw : ∀ d ∈ tables_1, d.before a0 Z = true) (a_EQUAL a_LESS a_NOT_EQUAL a_GREATER a_GREATER_OR_EQUAL a_LESS_OR_EQUAL : Addr) (a1 : Addr) (h0 : Heap) (B : own_B Z h0 a_EQUAL a_LESS a_NOT_EQUAL a_GREATER a_GREATER_OR_EQUAL a_LESS_OR_EQUAL) :
    own_M l Z (⟨"com/example/quern/quern/query/ComparisonOperator", "isOrdering", "()Z"⟩ : MethodName) prog_69_method_5_code 1 (some .boolean) ⟨0, 0, 0, 0⟩ #[.ref a1] h0 (fun v h L => v = some (.int (own_iso a_EQUAL a_LESS a_NOT_EQUAL a_GREATER a_GREATER_OR_EQUAL a_LESS_OR_EQUAL a1)) ∧ L = [] ∧ h = h0) := by
  refine own_body pn_4 ?_
  intro p e s m below meth c T0 hx hby hml hlk hown hret hnm hZ X0 e0
  replace hown : s.vm.findClass "com/example/quern/quern/query/ComparisonOperator" = some m.cls := hown
  replace hml : c.maxLocals = 1 := hml
  obtain ⟨S_EQUAL, E_EQUAL, F_EQUAL_ordinal, S_LESS, E_LESS, F_LESS_ordinal, S_NOT_EQUAL, E_NOT_EQUAL, F_NOT_EQUAL_ordinal, S_GREATER, E_GREATER, F_GREATER_ordinal, S_GREATER_OR_EQUAL, E_GREATER_OR_EQUAL, F_GREATER_OR_EQUAL_ordinal, S_LESS_OR_EQUAL, E_LESS_OR_EQUAL, F_LESS_OR_EQUAL_ordinal⟩ := id B
  have ef : entryFrame m #[.ref a1] 1 = (mkF m 0 #[.val (.ref a1)] []) := by first | (simp [entryFrame, mkF, argsToLocals, Value.category]; done) | rfl
  rw [ef]
  refine own_go (fun t k => XS.aloadN X0.here hx rfl (hb hby d4_0) rfl rfl k) ?_
  show own_G p e below _ T0 (mkF m 1 #[.val (.ref a1)] [(.ref a1)])
  obtain ⟨T1, X1, e1, st1⟩ := getS X0 hx hZ hown (host := "") (hw _ (List.mem_of_getElem? (i := 28) rfl)) Via.refl e0 S_EQUAL (g := (mkF m 1 #[.val (.ref a1)] [(.ref a1)])) rfl (hb hby d4_1)
  refine own_go st1 ?_
  show own_G p e below _ T1 (mkF m 4 #[.val (.ref a1)] [(.ref a_EQUAL), (.ref a1)])
  by_cases hc2 : a1 = a_EQUAL
  ·
    refine own_go (fun t k => Jvm.Free.XT.acmpYes X1.here hx rfl (pc0 := 4) (pc' := 18) rfl (hb hby d4_4) rfl rfl rfl (own_acT hc2) (by decide) (by decide) k) ?_
    show own_G p e below _ T1 (mkF m 18 #[.val (.ref a1)] [])
    refine own_go (fun t k => XS.iconst X1.here hx rfl (hb hby d4_18) k) ?_
    show own_G p e below _ T1 (mkF m 19 #[.val (.ref a1)] [(.int (0 : Int32))])
    exact own_retN X1 hx hlk hret (by simp) (hb hby d4_19) (by decide) (by decide) ⟨congrArg some (congrArg Value.int (Eq.symm (show (own_iso a_EQUAL a_LESS a_NOT_EQUAL a_GREATER a_GREATER_OR_EQUAL a_LESS_OR_EQUAL a1) = (nar .boolean (0 : Int32)) from (by unfold own_iso; rw [if_pos hc2])))), rfl, e1⟩
  ·
    refine own_go (fun t k => Jvm.Free.XT.acmpNo X1.here hx rfl (hb hby d4_4) rfl rfl rfl (own_acF hc2) k) ?_
    show own_G p e below _ T1 (mkF m 7 #[.val (.ref a1)] [])
    refine own_go (fun t k => XS.aloadN X1.here hx rfl (hb hby d4_7) rfl rfl k) ?_
    show own_G p e below _ T1 (mkF m 8 #[.val (.ref a1)] [(.ref a1)])
    obtain ⟨T3, X3, e3, st3⟩ := getS X1 hx hZ hown (host := "") (hw _ (List.mem_of_getElem? (i := 31) rfl)) Via.refl e1 S_NOT_EQUAL (g := (mkF m 8 #[.val (.ref a1)] [(.ref a1)])) rfl (hb hby d4_8)
    refine own_go st3 ?_
    show own_G p e below _ T3 (mkF m 11 #[.val (.ref a1)] [(.ref a_NOT_EQUAL), (.ref a1)])
    by_cases hc4 : a1 = a_NOT_EQUAL
    ·
      refine own_go (fun t k => Jvm.Free.XT.acmpYes X3.here hx rfl (pc0 := 11) (pc' := 18) rfl (hb hby d4_11) rfl rfl rfl (own_acT hc4) (by decide) (by decide) k) ?_
      show own_G p e below _ T3 (mkF m 18 #[.val (.ref a1)] [])
      refine own_go (fun t k => XS.iconst X3.here hx rfl (hb hby d4_18) k) ?_
      show own_G p e below _ T3 (mkF m 19 #[.val (.ref a1)] [(.int (0 : Int32))])
      exact own_retN X3 hx hlk hret (by simp) (hb hby d4_19) (by decide) (by decide) ⟨congrArg some (congrArg Value.int (Eq.symm (show (own_iso a_EQUAL a_LESS a_NOT_EQUAL a_GREATER a_GREATER_OR_EQUAL a_LESS_OR_EQUAL a1) = (nar .boolean (0 : Int32)) from (by unfold own_iso; rw [if_neg hc2, if_pos hc4])))), rfl, e3⟩
    ·
      refine own_go (fun t k => Jvm.Free.XT.acmpNo X3.here hx rfl (hb hby d4_11) rfl rfl rfl (own_acF hc4) k) ?_
      show own_G p e below _ T3 (mkF m 14 #[.val (.ref a1)] [])
      refine own_go (fun t k => XS.iconst X3.here hx rfl (hb hby d4_14) k) ?_
      show own_G p e below _ T3 (mkF m 15 #[.val (.ref a1)] [(.int (1 : Int32))])
      refine own_go (fun t k => XS.goto X3.here hx rfl (pc0 := 15) (pc' := 19) rfl (hb hby d4_15) (by decide) (by decide) k) ?_
      show own_G p e below _ T3 (mkF m 19 #[.val (.ref a1)] [(.int (1 : Int32))])
      exact own_retN X3 hx hlk hret (by simp) (hb hby d4_19) (by decide) (by decide) ⟨congrArg some (congrArg Value.int (Eq.symm (show (own_iso a_EQUAL a_LESS a_NOT_EQUAL a_GREATER a_GREATER_OR_EQUAL a_LESS_OR_EQUAL a1) = (nar .boolean (1 : Int32)) from (by unfold own_iso; rw [if_neg hc2, if_neg hc4])))), rfl, e3⟩
theorem own_pos (x : Int32) : 0 < ((x &&& 1073741823) + 1).toInt ∧ ((x &&& 1073741823) + 1).toInt ≤ 1073741824 := by
  have h := Jvm.Kit.i32_mask x 1073741823 (k := 30) (by decide) (by decide)
  have h1 : (1 : Int32).toInt = 1 := by decide
  have h2 := Jvm.Kit.i32_add (p := x &&& 1073741823) (q := 1) (by omega) (by omega)
  omega
theorem own_signs (a : Int32) (h0 : 0 < a.toInt) : ¬ a = 0 ∧ ¬ a < 0 ∧ 0 < a ∧ ¬ (-a) = 0 ∧ (-a) < 0 ∧ ¬ 0 < (-a) := by
  have hz : (0 : Int32).toInt = 0 := by decide
  have hn : (-a).toInt = -a.toInt := by
    rw [Int32.toInt_neg]
    have := a.toInt_lt
    exact Int.bmod_eq_of_le (by omega) (by omega)
  simp only [← Int32.toInt_inj, Int32.lt_iff_toInt_lt, hz, hn]
  omega
theorem pn_0 : plainFor x = true := by first | exact plainFor_of_name (by first | (simp [plainName, overriddenIn]; done) | decide +kernel) | decide +kernel
set_option maxRecDepth 65536 in
set_option maxHeartbeats 40000000 in
theorem rm0 (l : Launch) (Z : State) (a0 : Array Value) (hw : ∀ d ∈ tables_1, d.before a0 Z = true) (i0 i1 : Int32) (a_EQUAL a_LESS a_NOT_EQUAL a_GREATER a_GREATER_OR_EQUAL a_LESS_OR_EQUAL : Addr) (h0 : Heap) (n0 : Nat) (Z0 : n0 ≤ h0.size) (B : own_B Z h0 a_EQUAL a_LESS a_NOT_EQUAL a_GREATER a_GREATER_OR_EQUAL a_LESS_OR_EQUAL) :
    own_M l Z x code maxLocals ret room_1 #[.int i0, .int i1] h0 (fun v h L => v = some (.int 1) ∧ Fr n0 L) := by
  refine own_body pn_0 ?_
  intro p e s m below meth c T0 hx hby hml hlk hown hret hnm hZ X0 e0
  replace hown : s.vm.findClass "com/example/quern/quern/query/ComparisonOperatorIsOrderingPinLaw" = some m.cls := hown
  replace hml : c.maxLocals = 6 := hml
  replace hret : meth.sig.returnType = some .boolean := hret
  obtain ⟨S_EQUAL, E_EQUAL, F_EQUAL_ordinal, S_LESS, E_LESS, F_LESS_ordinal, S_NOT_EQUAL, E_NOT_EQUAL, F_NOT_EQUAL_ordinal, S_GREATER, E_GREATER, F_GREATER_ordinal, S_GREATER_OR_EQUAL, E_GREATER_OR_EQUAL, F_GREATER_OR_EQUAL_ordinal, S_LESS_OR_EQUAL, E_LESS_OR_EQUAL, F_LESS_OR_EQUAL_ordinal⟩ := id B
  have hk := own_l6 ((i0 &&& (2147483647 : Int32)) % (6 : Int32)) (own_rem _ 6 (own_mask i0) (by decide)).1 (Int.lt_add_one_iff.mp (own_rem _ 6 (own_mask i0) (by decide)).2)
  obtain ⟨ha1, ha2, ha3, hb1, hb2, hb3⟩ := own_signs ((i1 &&& (1073741823 : Int32)) + (1 : Int32)) (own_pos i1).1
  have N0 := Fr.nil n0
  have ef : entryFrame m #[.int i0, .int i1] maxLocals = (mkF m 0 #[.val (.int i0), .val (.int i1), .unset, .unset, .unset, .unset] []) := by first | (simp [entryFrame, mkF, argsToLocals, Value.category, maxLocals]; done) | rfl
  rw [ef]
  refine own_go (fun t k => XS.iloadN X0.here hx rfl (hb hby at_0) rfl k) ?_
  show own_G p e below _ T0 (mkF m 1 #[.val (.int i0), .val (.int i1), .unset, .unset, .unset, .unset] [(.int i0)])
  refine own_go (X0.ldcInt hx hown (mvT hZ (hw _ (List.mem_of_getElem? (i := 0) rfl))) (g := (mkF m 1 #[.val (.int i0), .val (.int i1), .unset, .unset, .unset, .unset] [(.int i0)])) rfl (hb hby at_1)) ?_
  show own_G p e below _ T0 (mkF m 3 #[.val (.int i0), .val (.int i1), .unset, .unset, .unset, .unset] [(.int (2147483647 : Int32)), (.int i0)])
  refine own_go (fun t k => XS.iand X0.here hx rfl (hb hby at_3) rfl k) ?_
  show own_G p e below _ T0 (mkF m 4 #[.val (.int i0), .val (.int i1), .unset, .unset, .unset, .unset] [(.int (i0 &&& (2147483647 : Int32)))])
  refine own_go (fun t k => XS.bipush X0.here hx rfl (hb hby at_4) k) ?_
  show own_G p e below _ T0 (mkF m 6 #[.val (.int i0), .val (.int i1), .unset, .unset, .unset, .unset] [(.int (6 : Int32)), (.int (i0 &&& (2147483647 : Int32)))])
  refine own_go (fun t k => iremM X0 hx rfl (hb hby at_6) rfl (by decide) k) ?_
  show own_G p e below _ T0 (mkF m 7 #[.val (.int i0), .val (.int i1), .unset, .unset, .unset, .unset] [(.int ((i0 &&& (2147483647 : Int32)) % (6 : Int32)))])
  rcases hk with hk1 | hk1 | hk1 | hk1 | hk1 | hk1
  · rw [hk1]
    show own_G p e below _ T0 (mkF m 7 #[.val (.int i0), .val (.int i1), .unset, .unset, .unset, .unset] [(.int (0 : Int32))])
    refine own_go (fun t k => XS.istoreN X0.here hx rfl (hb hby at_7) rfl (l' := #[.val (.int i0), .val (.int i1), .val (.int (0 : Int32)), .unset, .unset, .unset]) rfl k) ?_
    show own_G p e below _ T0 (mkF m 8 #[.val (.int i0), .val (.int i1), .val (.int (0 : Int32)), .unset, .unset, .unset] [])
    refine own_go (fun t k => XS.iloadN X0.here hx rfl (hb hby at_8) rfl k) ?_
    show own_G p e below _ T0 (mkF m 9 #[.val (.int i0), .val (.int i1), .val (.int (0 : Int32)), .unset, .unset, .unset] [(.int (0 : Int32))])
    obtain ⟨T2, L2, v2, X2, ⟨rfl, rfl, q2⟩, st2⟩ := own_callS X0 hx hZ (y := (⟨"com/example/quern/quern/query/ComparisonOperatorIsOrderingPinLaw", "pick", "(I)Lcom/example/quern/quern/query/ComparisonOperator;"⟩ : MethodName)) hown (hw _ (List.mem_of_getElem? (i := 1) rfl)) (hw _ (List.mem_of_getElem? (i := 2) rfl)) (hw _ (List.mem_of_getElem? (i := 3) rfl)) (hw _ (List.mem_of_getElem? (i := 4) rfl)) (by decide) (c_pick l Z a0 hw a_EQUAL a_LESS a_NOT_EQUAL a_GREATER a_GREATER_OR_EQUAL a_LESS_OR_EQUAL (0 : Int32) h0 B ) e0 (argsL := [(.int (0 : Int32))]) (rest := []) (g := (mkF m 9 #[.val (.int i0), .val (.int i1), .val (.int (0 : Int32)), .unset, .unset, .unset] [(.int (0 : Int32))])) rfl (by rw [hml]; rfl) (ps := [.int]) (r := (some (.object "com/example/quern/quern/query/ComparisonOperator"))) (by decide +kernel) rfl rfl (W := 0) (by show 2 * 0 + _ ≤ _; exact Nat.le_of_eq rfl) (hb hby at_9) (by decide) (by decide) (by decide) (by decide)
    have N2 := Fr.app N0 (Fr.nil n0)
    refine own_go st2 ?_
    show own_G p e below _ T2 (mkF m 12 #[.val (.int i0), .val (.int i1), .val (.int (0 : Int32)), .unset, .unset, .unset] [(.ref (own_pick a_EQUAL a_LESS a_NOT_EQUAL a_GREATER a_GREATER_OR_EQUAL a_LESS_OR_EQUAL (0 : Int32)))])
    have r2 : (own_pick a_EQUAL a_LESS a_NOT_EQUAL a_GREATER a_GREATER_OR_EQUAL a_LESS_OR_EQUAL (0 : Int32)) = a_EQUAL := by unfold own_pick; rw [if_pos (show ((0 : Int32) = (0 : Int32)) by decide)]
    rw [r2]
    show own_G p e below _ T2 (mkF m 12 #[.val (.int i0), .val (.int i1), .val (.int (0 : Int32)), .unset, .unset, .unset] [(.ref a_EQUAL)])
    refine own_go (fun t k => XS.astoreN X2.here hx rfl (hb hby at_12) rfl rfl (l' := #[.val (.int i0), .val (.int i1), .val (.int (0 : Int32)), .val (.ref a_EQUAL), .unset, .unset]) rfl k) ?_
    show own_G p e below _ T2 (mkF m 13 #[.val (.int i0), .val (.int i1), .val (.int (0 : Int32)), .val (.ref a_EQUAL), .unset, .unset] [])
    refine own_go (fun t k => XS.iloadN X2.here hx rfl (hb hby at_13) rfl k) ?_
    show own_G p e below _ T2 (mkF m 14 #[.val (.int i0), .val (.int i1), .val (.int (0 : Int32)), .val (.ref a_EQUAL), .unset, .unset] [(.int i1)])
    refine own_go (X2.ldcInt hx hown (mvT hZ (hw _ (List.mem_of_getElem? (i := 8) rfl))) (g := (mkF m 14 #[.val (.int i0), .val (.int i1), .val (.int (0 : Int32)), .val (.ref a_EQUAL), .unset, .unset] [(.int i1)])) rfl (hb hby at_14)) ?_
    show own_G p e below _ T2 (mkF m 16 #[.val (.int i0), .val (.int i1), .val (.int (0 : Int32)), .val (.ref a_EQUAL), .unset, .unset] [(.int (1073741823 : Int32)), (.int i1)])
    refine own_go (fun t k => XS.iand X2.here hx rfl (hb hby at_16) rfl k) ?_
    show own_G p e below _ T2 (mkF m 17 #[.val (.int i0), .val (.int i1), .val (.int (0 : Int32)), .val (.ref a_EQUAL), .unset, .unset] [(.int (i1 &&& (1073741823 : Int32)))])
    refine own_go (fun t k => XS.iconst X2.here hx rfl (hb hby at_17) k) ?_
    show own_G p e below _ T2 (mkF m 18 #[.val (.int i0), .val (.int i1), .val (.int (0 : Int32)), .val (.ref a_EQUAL), .unset, .unset] [(.int (1 : Int32)), (.int (i1 &&& (1073741823 : Int32)))])
    refine own_go (fun t k => XS.iadd X2.here hx rfl (hb hby at_18) rfl k) ?_
    show own_G p e below _ T2 (mkF m 19 #[.val (.int i0), .val (.int i1), .val (.int (0 : Int32)), .val (.ref a_EQUAL), .unset, .unset] [(.int ((i1 &&& (1073741823 : Int32)) + (1 : Int32)))])
    refine own_go (fun t k => XS.istore X2.here hx rfl (hb hby at_19) rfl (l' := #[.val (.int i0), .val (.int i1), .val (.int (0 : Int32)), .val (.ref a_EQUAL), .val (.int ((i1 &&& (1073741823 : Int32)) + (1 : Int32))), .unset]) rfl k) ?_
    show own_G p e below _ T2 (mkF m 21 #[.val (.int i0), .val (.int i1), .val (.int (0 : Int32)), .val (.ref a_EQUAL), .val (.int ((i1 &&& (1073741823 : Int32)) + (1 : Int32))), .unset] [])
    refine own_go (fun t k => XS.aloadN X2.here hx rfl (hb hby at_21) rfl rfl k) ?_
    show own_G p e below _ T2 (mkF m 22 #[.val (.int i0), .val (.int i1), .val (.int (0 : Int32)), .val (.ref a_EQUAL), .val (.int ((i1 &&& (1073741823 : Int32)) + (1 : Int32))), .unset] [(.ref a_EQUAL)])
    refine own_go (fun t k => XS.iload X2.here hx rfl (hb hby at_22) rfl k) ?_
    show own_G p e below _ T2 (mkF m 24 #[.val (.int i0), .val (.int i1), .val (.int (0 : Int32)), .val (.ref a_EQUAL), .val (.int ((i1 &&& (1073741823 : Int32)) + (1 : Int32))), .unset] [(.int ((i1 &&& (1073741823 : Int32)) + (1 : Int32))), (.ref a_EQUAL)])
    obtain ⟨T3, L3, v3, X3, ⟨rfl, rfl, q3⟩, st3⟩ := own_callV X2 hx hZ (y := (⟨"com/example/quern/quern/query/ComparisonOperator", "holds", "(I)Z"⟩ : MethodName)) (z := (⟨"com/example/quern/quern/query/ComparisonOperator", "holds", "(I)Z"⟩ : MethodName)) hown (hw _ (List.mem_of_getElem? (i := 9) rfl)) (hw _ (List.mem_of_getElem? (i := 10) rfl)) (hw _ (List.mem_of_getElem? (i := 12) rfl)) (hw _ (List.mem_of_getElem? (i := 12) rfl)) (hw _ (List.mem_of_getElem? (i := 11) rfl)) (hw _ (List.mem_of_getElem? (i := 13) rfl)) (hw _ (List.mem_of_getElem? (i := 6) rfl)) (notFace_of_selects (args := #[]) (mvT hZ (hw _ (List.mem_of_getElem? (i := 12) rfl)))) (by decide) (c_holds0 l Z a0 hw a_EQUAL ((i1 &&& (1073741823 : Int32)) + (1 : Int32)) h0  F_EQUAL_ordinal E_EQUAL) q2 E_EQUAL (argsL := [(.int ((i1 &&& (1073741823 : Int32)) + (1 : Int32)))]) (rest := []) (g := (mkF m 24 #[.val (.int i0), .val (.int i1), .val (.int (0 : Int32)), .val (.ref a_EQUAL), .val (.int ((i1 &&& (1073741823 : Int32)) + (1 : Int32))), .unset] [(.int ((i1 &&& (1073741823 : Int32)) + (1 : Int32))), (.ref a_EQUAL)])) rfl (by rw [hml]; rfl) (ps := [.int]) (r := (some .boolean)) (by decide +kernel) rfl rfl (W := 0) (by show 2 * 0 + _ ≤ _; exact Nat.le_of_eq rfl) (hb hby at_24) (by decide) (by decide) (by decide) (by decide)
    have N3 := Fr.app N2 (Fr.nil n0)
    refine own_go st3 ?_
    show own_G p e below _ T3 (mkF m 27 #[.val (.int i0), .val (.int i1), .val (.int (0 : Int32)), .val (.ref a_EQUAL), .val (.int ((i1 &&& (1073741823 : Int32)) + (1 : Int32))), .unset] [(.int (own_holds0 a_EQUAL ((i1 &&& (1073741823 : Int32)) + (1 : Int32))))])
    have r3 : (own_holds0 a_EQUAL ((i1 &&& (1073741823 : Int32)) + (1 : Int32))) = (0 : Int32) := by unfold own_holds0; rw [if_neg ha1]; rfl
    rw [r3]
    show own_G p e below _ T3 (mkF m 27 #[.val (.int i0), .val (.int i1), .val (.int (0 : Int32)), .val (.ref a_EQUAL), .val (.int ((i1 &&& (1073741823 : Int32)) + (1 : Int32))), .unset] [(.int (0 : Int32))])
    refine own_go (fun t k => XS.aloadN X3.here hx rfl (hb hby at_27) rfl rfl k) ?_
    show own_G p e below _ T3 (mkF m 28 #[.val (.int i0), .val (.int i1), .val (.int (0 : Int32)), .val (.ref a_EQUAL), .val (.int ((i1 &&& (1073741823 : Int32)) + (1 : Int32))), .unset] [(.ref a_EQUAL), (.int (0 : Int32))])
    refine own_go (fun t k => XS.iload X3.here hx rfl (hb hby at_28) rfl k) ?_
    show own_G p e below _ T3 (mkF m 30 #[.val (.int i0), .val (.int i1), .val (.int (0 : Int32)), .val (.ref a_EQUAL), .val (.int ((i1 &&& (1073741823 : Int32)) + (1 : Int32))), .unset] [(.int ((i1 &&& (1073741823 : Int32)) + (1 : Int32))), (.ref a_EQUAL), (.int (0 : Int32))])
    refine own_go (fun t k => XS.ineg X3.here hx rfl (hb hby at_30) rfl k) ?_
    show own_G p e below _ T3 (mkF m 31 #[.val (.int i0), .val (.int i1), .val (.int (0 : Int32)), .val (.ref a_EQUAL), .val (.int ((i1 &&& (1073741823 : Int32)) + (1 : Int32))), .unset] [(.int (-((i1 &&& (1073741823 : Int32)) + (1 : Int32)))), (.ref a_EQUAL), (.int (0 : Int32))])
    obtain ⟨T4, L4, v4, X4, ⟨rfl, rfl, q4⟩, st4⟩ := own_callV X3 hx hZ (y := (⟨"com/example/quern/quern/query/ComparisonOperator", "holds", "(I)Z"⟩ : MethodName)) (z := (⟨"com/example/quern/quern/query/ComparisonOperator", "holds", "(I)Z"⟩ : MethodName)) hown (hw _ (List.mem_of_getElem? (i := 9) rfl)) (hw _ (List.mem_of_getElem? (i := 10) rfl)) (hw _ (List.mem_of_getElem? (i := 12) rfl)) (hw _ (List.mem_of_getElem? (i := 12) rfl)) (hw _ (List.mem_of_getElem? (i := 11) rfl)) (hw _ (List.mem_of_getElem? (i := 13) rfl)) (hw _ (List.mem_of_getElem? (i := 6) rfl)) (notFace_of_selects (args := #[]) (mvT hZ (hw _ (List.mem_of_getElem? (i := 12) rfl)))) (by decide) (c_holds0 l Z a0 hw a_EQUAL (-((i1 &&& (1073741823 : Int32)) + (1 : Int32))) h0  F_EQUAL_ordinal E_EQUAL) q3 E_EQUAL (argsL := [(.int (-((i1 &&& (1073741823 : Int32)) + (1 : Int32))))]) (rest := [(.int (0 : Int32))]) (g := (mkF m 31 #[.val (.int i0), .val (.int i1), .val (.int (0 : Int32)), .val (.ref a_EQUAL), .val (.int ((i1 &&& (1073741823 : Int32)) + (1 : Int32))), .unset] [(.int (-((i1 &&& (1073741823 : Int32)) + (1 : Int32)))), (.ref a_EQUAL), (.int (0 : Int32))])) rfl (by rw [hml]; rfl) (ps := [.int]) (r := (some .boolean)) (by decide +kernel) rfl rfl (W := 1) (by show 2 * 0 + _ ≤ _; exact Nat.le_of_eq rfl) (hb hby at_31) (by decide) (by decide) (by decide) (by decide)
    have N4 := Fr.app N3 (Fr.nil n0)
    refine own_go st4 ?_
    show own_G p e below _ T4 (mkF m 34 #[.val (.int i0), .val (.int i1), .val (.int (0 : Int32)), .val (.ref a_EQUAL), .val (.int ((i1 &&& (1073741823 : Int32)) + (1 : Int32))), .unset] [(.int (own_holds0 a_EQUAL (-((i1 &&& (1073741823 : Int32)) + (1 : Int32))))), (.int (0 : Int32))])
    have r4 : (own_holds0 a_EQUAL (-((i1 &&& (1073741823 : Int32)) + (1 : Int32)))) = (0 : Int32) := by unfold own_holds0; rw [if_neg hb1]; rfl
    rw [r4]
    show own_G p e below _ T4 (mkF m 34 #[.val (.int i0), .val (.int i1), .val (.int (0 : Int32)), .val (.ref a_EQUAL), .val (.int ((i1 &&& (1073741823 : Int32)) + (1 : Int32))), .unset] [(.int (0 : Int32)), (.int (0 : Int32))])
    refine own_go (fun t k => XS.icmpYes X4.here hx rfl (pc0 := 34) (pc' := 41) rfl (hb hby at_34) rfl (by decide) (by decide) (by decide) k) ?_
    show own_G p e below _ T4 (mkF m 41 #[.val (.int i0), .val (.int i1), .val (.int (0 : Int32)), .val (.ref a_EQUAL), .val (.int ((i1 &&& (1073741823 : Int32)) + (1 : Int32))), .unset] [])
    refine own_go (fun t k => XS.iconst X4.here hx rfl (hb hby at_41) k) ?_
    show own_G p e below _ T4 (mkF m 42 #[.val (.int i0), .val (.int i1), .val (.int (0 : Int32)), .val (.ref a_EQUAL), .val (.int ((i1 &&& (1073741823 : Int32)) + (1 : Int32))), .unset] [(.int (0 : Int32))])
    refine own_go (fun t k => XS.istore X4.here hx rfl (hb hby at_42) rfl (l' := #[.val (.int i0), .val (.int i1), .val (.int (0 : Int32)), .val (.ref a_EQUAL), .val (.int ((i1 &&& (1073741823 : Int32)) + (1 : Int32))), .val (.int (0 : Int32))]) rfl k) ?_
    show own_G p e below _ T4 (mkF m 44 #[.val (.int i0), .val (.int i1), .val (.int (0 : Int32)), .val (.ref a_EQUAL), .val (.int ((i1 &&& (1073741823 : Int32)) + (1 : Int32))), .val (.int (0 : Int32))] [])
    refine own_go (fun t k => XS.aloadN X4.here hx rfl (hb hby at_44) rfl rfl k) ?_
    show own_G p e below _ T4 (mkF m 45 #[.val (.int i0), .val (.int i1), .val (.int (0 : Int32)), .val (.ref a_EQUAL), .val (.int ((i1 &&& (1073741823 : Int32)) + (1 : Int32))), .val (.int (0 : Int32))] [(.ref a_EQUAL)])
    obtain ⟨T5, L5, v5, X5, ⟨rfl, rfl, q5⟩, st5⟩ := own_callV X4 hx hZ (y := (⟨"com/example/quern/quern/query/ComparisonOperator", "isOrdering", "()Z"⟩ : MethodName)) (z := (⟨"com/example/quern/quern/query/ComparisonOperator", "isOrdering", "()Z"⟩ : MethodName)) hown (hw _ (List.mem_of_getElem? (i := 23) rfl)) (hw _ (List.mem_of_getElem? (i := 24) rfl)) (hw _ (List.mem_of_getElem? (i := 26) rfl)) (hw _ (List.mem_of_getElem? (i := 26) rfl)) (hw _ (List.mem_of_getElem? (i := 25) rfl)) (hw _ (List.mem_of_getElem? (i := 27) rfl)) (hw _ (List.mem_of_getElem? (i := 6) rfl)) (notFace_of_selects (args := #[]) (mvT hZ (hw _ (List.mem_of_getElem? (i := 26) rfl)))) (by decide) (c_iso l Z a0 hw a_EQUAL a_LESS a_NOT_EQUAL a_GREATER a_GREATER_OR_EQUAL a_LESS_OR_EQUAL a_EQUAL h0 B ) q4 E_EQUAL (argsL := []) (rest := []) (g := (mkF m 45 #[.val (.int i0), .val (.int i1), .val (.int (0 : Int32)), .val (.ref a_EQUAL), .val (.int ((i1 &&& (1073741823 : Int32)) + (1 : Int32))), .val (.int (0 : Int32))] [(.ref a_EQUAL)])) rfl (by rw [hml]; rfl) (ps := []) (r := (some .boolean)) (by decide +kernel) rfl rfl (W := 0) (by show 2 * 0 + _ ≤ _; exact Nat.le_of_eq rfl) (hb hby at_45) (by decide) (by decide) (by decide) (by decide)
    have N5 := Fr.app N4 (Fr.nil n0)
    refine own_go st5 ?_
    show own_G p e below _ T5 (mkF m 48 #[.val (.int i0), .val (.int i1), .val (.int (0 : Int32)), .val (.ref a_EQUAL), .val (.int ((i1 &&& (1073741823 : Int32)) + (1 : Int32))), .val (.int (0 : Int32))] [(.int (own_iso a_EQUAL a_LESS a_NOT_EQUAL a_GREATER a_GREATER_OR_EQUAL a_LESS_OR_EQUAL a_EQUAL))])
    have r5 : (own_iso a_EQUAL a_LESS a_NOT_EQUAL a_GREATER a_GREATER_OR_EQUAL a_LESS_OR_EQUAL a_EQUAL) = (0 : Int32) := by unfold own_iso; rw [if_pos (rfl : a_EQUAL = a_EQUAL)]; rfl
    rw [r5]
    show own_G p e below _ T5 (mkF m 48 #[.val (.int i0), .val (.int i1), .val (.int (0 : Int32)), .val (.ref a_EQUAL), .val (.int ((i1 &&& (1073741823 : Int32)) + (1 : Int32))), .val (.int (0 : Int32))] [(.int (0 : Int32))])
    refine own_go (fun t k => XS.iload X5.here hx rfl (hb hby at_48) rfl k) ?_
    show own_G p e below _ T5 (mkF m 50 #[.val (.int i0), .val (.int i1), .val (.int (0 : Int32)), .val (.ref a_EQUAL), .val (.int ((i1 &&& (1073741823 : Int32)) + (1 : Int32))), .val (.int (0 : Int32))] [(.int (0 : Int32)), (.int (0 : Int32))])
    refine own_go (fun t k => XS.icmpNo X5.here hx rfl (hb hby at_50) rfl (by decide) k) ?_
    show own_G p e below _ T5 (mkF m 53 #[.val (.int i0), .val (.int i1), .val (.int (0 : Int32)), .val (.ref a_EQUAL), .val (.int ((i1 &&& (1073741823 : Int32)) + (1 : Int32))), .val (.int (0 : Int32))] [])
    refine own_go (fun t k => XS.iconst X5.here hx rfl (hb hby at_53) k) ?_
    show own_G p e below _ T5 (mkF m 54 #[.val (.int i0), .val (.int i1), .val (.int (0 : Int32)), .val (.ref a_EQUAL), .val (.int ((i1 &&& (1073741823 : Int32)) + (1 : Int32))), .val (.int (0 : Int32))] [(.int (1 : Int32))])
    refine own_go (fun t k => XS.goto X5.here hx rfl (pc0 := 54) (pc' := 58) rfl (hb hby at_54) (by decide) (by decide) k) ?_
    show own_G p e below _ T5 (mkF m 58 #[.val (.int i0), .val (.int i1), .val (.int (0 : Int32)), .val (.ref a_EQUAL), .val (.int ((i1 &&& (1073741823 : Int32)) + (1 : Int32))), .val (.int (0 : Int32))] [(.int (1 : Int32))])
    exact own_retN X5 hx hlk hret (by simp) (hb hby at_58) (by decide) (by decide) ⟨rfl, N5⟩
  · rw [hk1]
    show own_G p e below _ T0 (mkF m 7 #[.val (.int i0), .val (.int i1), .unset, .unset, .unset, .unset] [(.int (1 : Int32))])
    refine own_go (fun t k => XS.istoreN X0.here hx rfl (hb hby at_7) rfl (l' := #[.val (.int i0), .val (.int i1), .val (.int (1 : Int32)), .unset, .unset, .unset]) rfl k) ?_
    show own_G p e below _ T0 (mkF m 8 #[.val (.int i0), .val (.int i1), .val (.int (1 : Int32)), .unset, .unset, .unset] [])
    refine own_go (fun t k => XS.iloadN X0.here hx rfl (hb hby at_8) rfl k) ?_
    show own_G p e below _ T0 (mkF m 9 #[.val (.int i0), .val (.int i1), .val (.int (1 : Int32)), .unset, .unset, .unset] [(.int (1 : Int32))])
    obtain ⟨T6, L6, v6, X6, ⟨rfl, rfl, q6⟩, st6⟩ := own_callS X0 hx hZ (y := (⟨"com/example/quern/quern/query/ComparisonOperatorIsOrderingPinLaw", "pick", "(I)Lcom/example/quern/quern/query/ComparisonOperator;"⟩ : MethodName)) hown (hw _ (List.mem_of_getElem? (i := 1) rfl)) (hw _ (List.mem_of_getElem? (i := 2) rfl)) (hw _ (List.mem_of_getElem? (i := 3) rfl)) (hw _ (List.mem_of_getElem? (i := 4) rfl)) (by decide) (c_pick l Z a0 hw a_EQUAL a_LESS a_NOT_EQUAL a_GREATER a_GREATER_OR_EQUAL a_LESS_OR_EQUAL (1 : Int32) h0 B ) e0 (argsL := [(.int (1 : Int32))]) (rest := []) (g := (mkF m 9 #[.val (.int i0), .val (.int i1), .val (.int (1 : Int32)), .unset, .unset, .unset] [(.int (1 : Int32))])) rfl (by rw [hml]; rfl) (ps := [.int]) (r := (some (.object "com/example/quern/quern/query/ComparisonOperator"))) (by decide +kernel) rfl rfl (W := 0) (by show 2 * 0 + _ ≤ _; exact Nat.le_of_eq rfl) (hb hby at_9) (by decide) (by decide) (by decide) (by decide)
    have N6 := Fr.app N0 (Fr.nil n0)
    refine own_go st6 ?_
    show own_G p e below _ T6 (mkF m 12 #[.val (.int i0), .val (.int i1), .val (.int (1 : Int32)), .unset, .unset, .unset] [(.ref (own_pick a_EQUAL a_LESS a_NOT_EQUAL a_GREATER a_GREATER_OR_EQUAL a_LESS_OR_EQUAL (1 : Int32)))])
    have r6 : (own_pick a_EQUAL a_LESS a_NOT_EQUAL a_GREATER a_GREATER_OR_EQUAL a_LESS_OR_EQUAL (1 : Int32)) = a_NOT_EQUAL := by unfold own_pick; rw [if_neg (show ¬ ((1 : Int32) = (0 : Int32)) by decide), if_pos (show ((1 : Int32) = (1 : Int32)) by decide)]
    rw [r6]
    show own_G p e below _ T6 (mkF m 12 #[.val (.int i0), .val (.int i1), .val (.int (1 : Int32)), .unset, .unset, .unset] [(.ref a_NOT_EQUAL)])
    refine own_go (fun t k => XS.astoreN X6.here hx rfl (hb hby at_12) rfl rfl (l' := #[.val (.int i0), .val (.int i1), .val (.int (1 : Int32)), .val (.ref a_NOT_EQUAL), .unset, .unset]) rfl k) ?_
    show own_G p e below _ T6 (mkF m 13 #[.val (.int i0), .val (.int i1), .val (.int (1 : Int32)), .val (.ref a_NOT_EQUAL), .unset, .unset] [])
    refine own_go (fun t k => XS.iloadN X6.here hx rfl (hb hby at_13) rfl k) ?_
    show own_G p e below _ T6 (mkF m 14 #[.val (.int i0), .val (.int i1), .val (.int (1 : Int32)), .val (.ref a_NOT_EQUAL), .unset, .unset] [(.int i1)])
    refine own_go (X6.ldcInt hx hown (mvT hZ (hw _ (List.mem_of_getElem? (i := 8) rfl))) (g := (mkF m 14 #[.val (.int i0), .val (.int i1), .val (.int (1 : Int32)), .val (.ref a_NOT_EQUAL), .unset, .unset] [(.int i1)])) rfl (hb hby at_14)) ?_
    show own_G p e below _ T6 (mkF m 16 #[.val (.int i0), .val (.int i1), .val (.int (1 : Int32)), .val (.ref a_NOT_EQUAL), .unset, .unset] [(.int (1073741823 : Int32)), (.int i1)])
    refine own_go (fun t k => XS.iand X6.here hx rfl (hb hby at_16) rfl k) ?_
    show own_G p e below _ T6 (mkF m 17 #[.val (.int i0), .val (.int i1), .val (.int (1 : Int32)), .val (.ref a_NOT_EQUAL), .unset, .unset] [(.int (i1 &&& (1073741823 : Int32)))])
    refine own_go (fun t k => XS.iconst X6.here hx rfl (hb hby at_17) k) ?_
    show own_G p e below _ T6 (mkF m 18 #[.val (.int i0), .val (.int i1), .val (.int (1 : Int32)), .val (.ref a_NOT_EQUAL), .unset, .unset] [(.int (1 : Int32)), (.int (i1 &&& (1073741823 : Int32)))])
    refine own_go (fun t k => XS.iadd X6.here hx rfl (hb hby at_18) rfl k) ?_
    show own_G p e below _ T6 (mkF m 19 #[.val (.int i0), .val (.int i1), .val (.int (1 : Int32)), .val (.ref a_NOT_EQUAL), .unset, .unset] [(.int ((i1 &&& (1073741823 : Int32)) + (1 : Int32)))])
    refine own_go (fun t k => XS.istore X6.here hx rfl (hb hby at_19) rfl (l' := #[.val (.int i0), .val (.int i1), .val (.int (1 : Int32)), .val (.ref a_NOT_EQUAL), .val (.int ((i1 &&& (1073741823 : Int32)) + (1 : Int32))), .unset]) rfl k) ?_
    show own_G p e below _ T6 (mkF m 21 #[.val (.int i0), .val (.int i1), .val (.int (1 : Int32)), .val (.ref a_NOT_EQUAL), .val (.int ((i1 &&& (1073741823 : Int32)) + (1 : Int32))), .unset] [])
    refine own_go (fun t k => XS.aloadN X6.here hx rfl (hb hby at_21) rfl rfl k) ?_
    show own_G p e below _ T6 (mkF m 22 #[.val (.int i0), .val (.int i1), .val (.int (1 : Int32)), .val (.ref a_NOT_EQUAL), .val (.int ((i1 &&& (1073741823 : Int32)) + (1 : Int32))), .unset] [(.ref a_NOT_EQUAL)])
    refine own_go (fun t k => XS.iload X6.here hx rfl (hb hby at_22) rfl k) ?_
    show own_G p e below _ T6 (mkF m 24 #[.val (.int i0), .val (.int i1), .val (.int (1 : Int32)), .val (.ref a_NOT_EQUAL), .val (.int ((i1 &&& (1073741823 : Int32)) + (1 : Int32))), .unset] [(.int ((i1 &&& (1073741823 : Int32)) + (1 : Int32))), (.ref a_NOT_EQUAL)])
    obtain ⟨T7, L7, v7, X7, ⟨rfl, rfl, q7⟩, st7⟩ := own_callV X6 hx hZ (y := (⟨"com/example/quern/quern/query/ComparisonOperator", "holds", "(I)Z"⟩ : MethodName)) (z := (⟨"com/example/quern/quern/query/ComparisonOperator", "holds", "(I)Z"⟩ : MethodName)) hown (hw _ (List.mem_of_getElem? (i := 9) rfl)) (hw _ (List.mem_of_getElem? (i := 10) rfl)) (hw _ (List.mem_of_getElem? (i := 12) rfl)) (hw _ (List.mem_of_getElem? (i := 12) rfl)) (hw _ (List.mem_of_getElem? (i := 11) rfl)) (hw _ (List.mem_of_getElem? (i := 13) rfl)) (hw _ (List.mem_of_getElem? (i := 6) rfl)) (notFace_of_selects (args := #[]) (mvT hZ (hw _ (List.mem_of_getElem? (i := 12) rfl)))) (by decide) (c_holds1 l Z a0 hw a_NOT_EQUAL ((i1 &&& (1073741823 : Int32)) + (1 : Int32)) h0  F_NOT_EQUAL_ordinal E_NOT_EQUAL) q6 E_NOT_EQUAL (argsL := [(.int ((i1 &&& (1073741823 : Int32)) + (1 : Int32)))]) (rest := []) (g := (mkF m 24 #[.val (.int i0), .val (.int i1), .val (.int (1 : Int32)), .val (.ref a_NOT_EQUAL), .val (.int ((i1 &&& (1073741823 : Int32)) + (1 : Int32))), .unset] [(.int ((i1 &&& (1073741823 : Int32)) + (1 : Int32))), (.ref a_NOT_EQUAL)])) rfl (by rw [hml]; rfl) (ps := [.int]) (r := (some .boolean)) (by decide +kernel) rfl rfl (W := 0) (by show 2 * 0 + _ ≤ _; exact Nat.le_of_eq rfl) (hb hby at_24) (by decide) (by decide) (by decide) (by decide)
    have N7 := Fr.app N6 (Fr.nil n0)
    refine own_go st7 ?_
    show own_G p e below _ T7 (mkF m 27 #[.val (.int i0), .val (.int i1), .val (.int (1 : Int32)), .val (.ref a_NOT_EQUAL), .val (.int ((i1 &&& (1073741823 : Int32)) + (1 : Int32))), .unset] [(.int (own_holds1 a_NOT_EQUAL ((i1 &&& (1073741823 : Int32)) + (1 : Int32))))])
    have r7 : (own_holds1 a_NOT_EQUAL ((i1 &&& (1073741823 : Int32)) + (1 : Int32))) = (1 : Int32) := by unfold own_holds1; rw [if_neg ha1]; rfl
    rw [r7]
    show own_G p e below _ T7 (mkF m 27 #[.val (.int i0), .val (.int i1), .val (.int (1 : Int32)), .val (.ref a_NOT_EQUAL), .val (.int ((i1 &&& (1073741823 : Int32)) + (1 : Int32))), .unset] [(.int (1 : Int32))])
    refine own_go (fun t k => XS.aloadN X7.here hx rfl (hb hby at_27) rfl rfl k) ?_
    show own_G p e below _ T7 (mkF m 28 #[.val (.int i0), .val (.int i1), .val (.int (1 : Int32)), .val (.ref a_NOT_EQUAL), .val (.int ((i1 &&& (1073741823 : Int32)) + (1 : Int32))), .unset] [(.ref a_NOT_EQUAL), (.int (1 : Int32))])
    refine own_go (fun t k => XS.iload X7.here hx rfl (hb hby at_28) rfl k) ?_
    show own_G p e below _ T7 (mkF m 30 #[.val (.int i0), .val (.int i1), .val (.int (1 : Int32)), .val (.ref a_NOT_EQUAL), .val (.int ((i1 &&& (1073741823 : Int32)) + (1 : Int32))), .unset] [(.int ((i1 &&& (1073741823 : Int32)) + (1 : Int32))), (.ref a_NOT_EQUAL), (.int (1 : Int32))])
    refine own_go (fun t k => XS.ineg X7.here hx rfl (hb hby at_30) rfl k) ?_
    show own_G p e below _ T7 (mkF m 31 #[.val (.int i0), .val (.int i1), .val (.int (1 : Int32)), .val (.ref a_NOT_EQUAL), .val (.int ((i1 &&& (1073741823 : Int32)) + (1 : Int32))), .unset] [(.int (-((i1 &&& (1073741823 : Int32)) + (1 : Int32)))), (.ref a_NOT_EQUAL), (.int (1 : Int32))])
    obtain ⟨T8, L8, v8, X8, ⟨rfl, rfl, q8⟩, st8⟩ := own_callV X7 hx hZ (y := (⟨"com/example/quern/quern/query/ComparisonOperator", "holds", "(I)Z"⟩ : MethodName)) (z := (⟨"com/example/quern/quern/query/ComparisonOperator", "holds", "(I)Z"⟩ : MethodName)) hown (hw _ (List.mem_of_getElem? (i := 9) rfl)) (hw _ (List.mem_of_getElem? (i := 10) rfl)) (hw _ (List.mem_of_getElem? (i := 12) rfl)) (hw _ (List.mem_of_getElem? (i := 12) rfl)) (hw _ (List.mem_of_getElem? (i := 11) rfl)) (hw _ (List.mem_of_getElem? (i := 13) rfl)) (hw _ (List.mem_of_getElem? (i := 6) rfl)) (notFace_of_selects (args := #[]) (mvT hZ (hw _ (List.mem_of_getElem? (i := 12) rfl)))) (by decide) (c_holds1 l Z a0 hw a_NOT_EQUAL (-((i1 &&& (1073741823 : Int32)) + (1 : Int32))) h0  F_NOT_EQUAL_ordinal E_NOT_EQUAL) q7 E_NOT_EQUAL (argsL := [(.int (-((i1 &&& (1073741823 : Int32)) + (1 : Int32))))]) (rest := [(.int (1 : Int32))]) (g := (mkF m 31 #[.val (.int i0), .val (.int i1), .val (.int (1 : Int32)), .val (.ref a_NOT_EQUAL), .val (.int ((i1 &&& (1073741823 : Int32)) + (1 : Int32))), .unset] [(.int (-((i1 &&& (1073741823 : Int32)) + (1 : Int32)))), (.ref a_NOT_EQUAL), (.int (1 : Int32))])) rfl (by rw [hml]; rfl) (ps := [.int]) (r := (some .boolean)) (by decide +kernel) rfl rfl (W := 1) (by show 2 * 0 + _ ≤ _; exact Nat.le_of_eq rfl) (hb hby at_31) (by decide) (by decide) (by decide) (by decide)
    have N8 := Fr.app N7 (Fr.nil n0)
    refine own_go st8 ?_
    show own_G p e below _ T8 (mkF m 34 #[.val (.int i0), .val (.int i1), .val (.int (1 : Int32)), .val (.ref a_NOT_EQUAL), .val (.int ((i1 &&& (1073741823 : Int32)) + (1 : Int32))), .unset] [(.int (own_holds1 a_NOT_EQUAL (-((i1 &&& (1073741823 : Int32)) + (1 : Int32))))), (.int (1 : Int32))])
    have r8 : (own_holds1 a_NOT_EQUAL (-((i1 &&& (1073741823 : Int32)) + (1 : Int32)))) = (1 : Int32) := by unfold own_holds1; rw [if_neg hb1]; rfl
    rw [r8]
    show own_G p e below _ T8 (mkF m 34 #[.val (.int i0), .val (.int i1), .val (.int (1 : Int32)), .val (.ref a_NOT_EQUAL), .val (.int ((i1 &&& (1073741823 : Int32)) + (1 : Int32))), .unset] [(.int (1 : Int32)), (.int (1 : Int32))])
    refine own_go (fun t k => XS.icmpYes X8.here hx rfl (pc0 := 34) (pc' := 41) rfl (hb hby at_34) rfl (by decide) (by decide) (by decide) k) ?_
    show own_G p e below _ T8 (mkF m 41 #[.val (.int i0), .val (.int i1), .val (.int (1 : Int32)), .val (.ref a_NOT_EQUAL), .val (.int ((i1 &&& (1073741823 : Int32)) + (1 : Int32))), .unset] [])
    refine own_go (fun t k => XS.iconst X8.here hx rfl (hb hby at_41) k) ?_
    show own_G p e below _ T8 (mkF m 42 #[.val (.int i0), .val (.int i1), .val (.int (1 : Int32)), .val (.ref a_NOT_EQUAL), .val (.int ((i1 &&& (1073741823 : Int32)) + (1 : Int32))), .unset] [(.int (0 : Int32))])
    refine own_go (fun t k => XS.istore X8.here hx rfl (hb hby at_42) rfl (l' := #[.val (.int i0), .val (.int i1), .val (.int (1 : Int32)), .val (.ref a_NOT_EQUAL), .val (.int ((i1 &&& (1073741823 : Int32)) + (1 : Int32))), .val (.int (0 : Int32))]) rfl k) ?_
    show own_G p e below _ T8 (mkF m 44 #[.val (.int i0), .val (.int i1), .val (.int (1 : Int32)), .val (.ref a_NOT_EQUAL), .val (.int ((i1 &&& (1073741823 : Int32)) + (1 : Int32))), .val (.int (0 : Int32))] [])
    refine own_go (fun t k => XS.aloadN X8.here hx rfl (hb hby at_44) rfl rfl k) ?_
    show own_G p e below _ T8 (mkF m 45 #[.val (.int i0), .val (.int i1), .val (.int (1 : Int32)), .val (.ref a_NOT_EQUAL), .val (.int ((i1 &&& (1073741823 : Int32)) + (1 : Int32))), .val (.int (0 : Int32))] [(.ref a_NOT_EQUAL)])
    obtain ⟨T9, L9, v9, X9, ⟨rfl, rfl, q9⟩, st9⟩ := own_callV X8 hx hZ (y := (⟨"com/example/quern/quern/query/ComparisonOperator", "isOrdering", "()Z"⟩ : MethodName)) (z := (⟨"com/example/quern/quern/query/ComparisonOperator", "isOrdering", "()Z"⟩ : MethodName)) hown (hw _ (List.mem_of_getElem? (i := 23) rfl)) (hw _ (List.mem_of_getElem? (i := 24) rfl)) (hw _ (List.mem_of_getElem? (i := 26) rfl)) (hw _ (List.mem_of_getElem? (i := 26) rfl)) (hw _ (List.mem_of_getElem? (i := 25) rfl)) (hw _ (List.mem_of_getElem? (i := 27) rfl)) (hw _ (List.mem_of_getElem? (i := 6) rfl)) (notFace_of_selects (args := #[]) (mvT hZ (hw _ (List.mem_of_getElem? (i := 26) rfl)))) (by decide) (c_iso l Z a0 hw a_EQUAL a_LESS a_NOT_EQUAL a_GREATER a_GREATER_OR_EQUAL a_LESS_OR_EQUAL a_NOT_EQUAL h0 B ) q8 E_NOT_EQUAL (argsL := []) (rest := []) (g := (mkF m 45 #[.val (.int i0), .val (.int i1), .val (.int (1 : Int32)), .val (.ref a_NOT_EQUAL), .val (.int ((i1 &&& (1073741823 : Int32)) + (1 : Int32))), .val (.int (0 : Int32))] [(.ref a_NOT_EQUAL)])) rfl (by rw [hml]; rfl) (ps := []) (r := (some .boolean)) (by decide +kernel) rfl rfl (W := 0) (by show 2 * 0 + _ ≤ _; exact Nat.le_of_eq rfl) (hb hby at_45) (by decide) (by decide) (by decide) (by decide)
    have N9 := Fr.app N8 (Fr.nil n0)
    refine own_go st9 ?_
    show own_G p e below _ T9 (mkF m 48 #[.val (.int i0), .val (.int i1), .val (.int (1 : Int32)), .val (.ref a_NOT_EQUAL), .val (.int ((i1 &&& (1073741823 : Int32)) + (1 : Int32))), .val (.int (0 : Int32))] [(.int (own_iso a_EQUAL a_LESS a_NOT_EQUAL a_GREATER a_GREATER_OR_EQUAL a_LESS_OR_EQUAL a_NOT_EQUAL))])
    have r9 : (own_iso a_EQUAL a_LESS a_NOT_EQUAL a_GREATER a_GREATER_OR_EQUAL a_LESS_OR_EQUAL a_NOT_EQUAL) = (0 : Int32) := by unfold own_iso; rw [if_neg (Fld.ne F_NOT_EQUAL_ordinal F_EQUAL_ordinal (own_neV (by decide))), if_pos (rfl : a_NOT_EQUAL = a_NOT_EQUAL)]; rfl
    rw [r9]
    show own_G p e below _ T9 (mkF m 48 #[.val (.int i0), .val (.int i1), .val (.int (1 : Int32)), .val (.ref a_NOT_EQUAL), .val (.int ((i1 &&& (1073741823 : Int32)) + (1 : Int32))), .val (.int (0 : Int32))] [(.int (0 : Int32))])
    refine own_go (fun t k => XS.iload X9.here hx rfl (hb hby at_48) rfl k) ?_
    show own_G p e below _ T9 (mkF m 50 #[.val (.int i0), .val (.int i1), .val (.int (1 : Int32)), .val (.ref a_NOT_EQUAL), .val (.int ((i1 &&& (1073741823 : Int32)) + (1 : Int32))), .val (.int (0 : Int32))] [(.int (0 : Int32)), (.int (0 : Int32))])
    refine own_go (fun t k => XS.icmpNo X9.here hx rfl (hb hby at_50) rfl (by decide) k) ?_
    show own_G p e below _ T9 (mkF m 53 #[.val (.int i0), .val (.int i1), .val (.int (1 : Int32)), .val (.ref a_NOT_EQUAL), .val (.int ((i1 &&& (1073741823 : Int32)) + (1 : Int32))), .val (.int (0 : Int32))] [])
    refine own_go (fun t k => XS.iconst X9.here hx rfl (hb hby at_53) k) ?_
    show own_G p e below _ T9 (mkF m 54 #[.val (.int i0), .val (.int i1), .val (.int (1 : Int32)), .val (.ref a_NOT_EQUAL), .val (.int ((i1 &&& (1073741823 : Int32)) + (1 : Int32))), .val (.int (0 : Int32))] [(.int (1 : Int32))])
    refine own_go (fun t k => XS.goto X9.here hx rfl (pc0 := 54) (pc' := 58) rfl (hb hby at_54) (by decide) (by decide) k) ?_
    show own_G p e below _ T9 (mkF m 58 #[.val (.int i0), .val (.int i1), .val (.int (1 : Int32)), .val (.ref a_NOT_EQUAL), .val (.int ((i1 &&& (1073741823 : Int32)) + (1 : Int32))), .val (.int (0 : Int32))] [(.int (1 : Int32))])
    exact own_retN X9 hx hlk hret (by simp) (hb hby at_58) (by decide) (by decide) ⟨rfl, N9⟩
  · rw [hk1]
    show own_G p e below _ T0 (mkF m 7 #[.val (.int i0), .val (.int i1), .unset, .unset, .unset, .unset] [(.int (2 : Int32))])
    refine own_go (fun t k => XS.istoreN X0.here hx rfl (hb hby at_7) rfl (l' := #[.val (.int i0), .val (.int i1), .val (.int (2 : Int32)), .unset, .unset, .unset]) rfl k) ?_
    show own_G p e below _ T0 (mkF m 8 #[.val (.int i0), .val (.int i1), .val (.int (2 : Int32)), .unset, .unset, .unset] [])
    refine own_go (fun t k => XS.iloadN X0.here hx rfl (hb hby at_8) rfl k) ?_
    show own_G p e below _ T0 (mkF m 9 #[.val (.int i0), .val (.int i1), .val (.int (2 : Int32)), .unset, .unset, .unset] [(.int (2 : Int32))])
    obtain ⟨T10, L10, v10, X10, ⟨rfl, rfl, q10⟩, st10⟩ := own_callS X0 hx hZ (y := (⟨"com/example/quern/quern/query/ComparisonOperatorIsOrderingPinLaw", "pick", "(I)Lcom/example/quern/quern/query/ComparisonOperator;"⟩ : MethodName)) hown (hw _ (List.mem_of_getElem? (i := 1) rfl)) (hw _ (List.mem_of_getElem? (i := 2) rfl)) (hw _ (List.mem_of_getElem? (i := 3) rfl)) (hw _ (List.mem_of_getElem? (i := 4) rfl)) (by decide) (c_pick l Z a0 hw a_EQUAL a_LESS a_NOT_EQUAL a_GREATER a_GREATER_OR_EQUAL a_LESS_OR_EQUAL (2 : Int32) h0 B ) e0 (argsL := [(.int (2 : Int32))]) (rest := []) (g := (mkF m 9 #[.val (.int i0), .val (.int i1), .val (.int (2 : Int32)), .unset, .unset, .unset] [(.int (2 : Int32))])) rfl (by rw [hml]; rfl) (ps := [.int]) (r := (some (.object "com/example/quern/quern/query/ComparisonOperator"))) (by decide +kernel) rfl rfl (W := 0) (by show 2 * 0 + _ ≤ _; exact Nat.le_of_eq rfl) (hb hby at_9) (by decide) (by decide) (by decide) (by decide)
    have N10 := Fr.app N0 (Fr.nil n0)
    refine own_go st10 ?_
    show own_G p e below _ T10 (mkF m 12 #[.val (.int i0), .val (.int i1), .val (.int (2 : Int32)), .unset, .unset, .unset] [(.ref (own_pick a_EQUAL a_LESS a_NOT_EQUAL a_GREATER a_GREATER_OR_EQUAL a_LESS_OR_EQUAL (2 : Int32)))])
    have r10 : (own_pick a_EQUAL a_LESS a_NOT_EQUAL a_GREATER a_GREATER_OR_EQUAL a_LESS_OR_EQUAL (2 : Int32)) = a_LESS := by unfold own_pick; rw [if_neg (show ¬ ((2 : Int32) = (0 : Int32)) by decide), if_neg (show ¬ ((2 : Int32) = (1 : Int32)) by decide), if_pos (show ((2 : Int32) = (2 : Int32)) by decide)]
    rw [r10]
    show own_G p e below _ T10 (mkF m 12 #[.val (.int i0), .val (.int i1), .val (.int (2 : Int32)), .unset, .unset, .unset] [(.ref a_LESS)])
    refine own_go (fun t k => XS.astoreN X10.here hx rfl (hb hby at_12) rfl rfl (l' := #[.val (.int i0), .val (.int i1), .val (.int (2 : Int32)), .val (.ref a_LESS), .unset, .unset]) rfl k) ?_
    show own_G p e below _ T10 (mkF m 13 #[.val (.int i0), .val (.int i1), .val (.int (2 : Int32)), .val (.ref a_LESS), .unset, .unset] [])
    refine own_go (fun t k => XS.iloadN X10.here hx rfl (hb hby at_13) rfl k) ?_
    show own_G p e below _ T10 (mkF m 14 #[.val (.int i0), .val (.int i1), .val (.int (2 : Int32)), .val (.ref a_LESS), .unset, .unset] [(.int i1)])
    refine own_go (X10.ldcInt hx hown (mvT hZ (hw _ (List.mem_of_getElem? (i := 8) rfl))) (g := (mkF m 14 #[.val (.int i0), .val (.int i1), .val (.int (2 : Int32)), .val (.ref a_LESS), .unset, .unset] [(.int i1)])) rfl (hb hby at_14)) ?_
    show own_G p e below _ T10 (mkF m 16 #[.val (.int i0), .val (.int i1), .val (.int (2 : Int32)), .val (.ref a_LESS), .unset, .unset] [(.int (1073741823 : Int32)), (.int i1)])
    refine own_go (fun t k => XS.iand X10.here hx rfl (hb hby at_16) rfl k) ?_
    show own_G p e below _ T10 (mkF m 17 #[.val (.int i0), .val (.int i1), .val (.int (2 : Int32)), .val (.ref a_LESS), .unset, .unset] [(.int (i1 &&& (1073741823 : Int32)))])
    refine own_go (fun t k => XS.iconst X10.here hx rfl (hb hby at_17) k) ?_
    show own_G p e below _ T10 (mkF m 18 #[.val (.int i0), .val (.int i1), .val (.int (2 : Int32)), .val (.ref a_LESS), .unset, .unset] [(.int (1 : Int32)), (.int (i1 &&& (1073741823 : Int32)))])
    refine own_go (fun t k => XS.iadd X10.here hx rfl (hb hby at_18) rfl k) ?_
    show own_G p e below _ T10 (mkF m 19 #[.val (.int i0), .val (.int i1), .val (.int (2 : Int32)), .val (.ref a_LESS), .unset, .unset] [(.int ((i1 &&& (1073741823 : Int32)) + (1 : Int32)))])
    refine own_go (fun t k => XS.istore X10.here hx rfl (hb hby at_19) rfl (l' := #[.val (.int i0), .val (.int i1), .val (.int (2 : Int32)), .val (.ref a_LESS), .val (.int ((i1 &&& (1073741823 : Int32)) + (1 : Int32))), .unset]) rfl k) ?_
    show own_G p e below _ T10 (mkF m 21 #[.val (.int i0), .val (.int i1), .val (.int (2 : Int32)), .val (.ref a_LESS), .val (.int ((i1 &&& (1073741823 : Int32)) + (1 : Int32))), .unset] [])
    refine own_go (fun t k => XS.aloadN X10.here hx rfl (hb hby at_21) rfl rfl k) ?_
    show own_G p e below _ T10 (mkF m 22 #[.val (.int i0), .val (.int i1), .val (.int (2 : Int32)), .val (.ref a_LESS), .val (.int ((i1 &&& (1073741823 : Int32)) + (1 : Int32))), .unset] [(.ref a_LESS)])
    refine own_go (fun t k => XS.iload X10.here hx rfl (hb hby at_22) rfl k) ?_
    show own_G p e below _ T10 (mkF m 24 #[.val (.int i0), .val (.int i1), .val (.int (2 : Int32)), .val (.ref a_LESS), .val (.int ((i1 &&& (1073741823 : Int32)) + (1 : Int32))), .unset] [(.int ((i1 &&& (1073741823 : Int32)) + (1 : Int32))), (.ref a_LESS)])
    obtain ⟨T11, L11, v11, X11, ⟨rfl, rfl, q11⟩, st11⟩ := own_callV X10 hx hZ (y := (⟨"com/example/quern/quern/query/ComparisonOperator", "holds", "(I)Z"⟩ : MethodName)) (z := (⟨"com/example/quern/quern/query/ComparisonOperator", "holds", "(I)Z"⟩ : MethodName)) hown (hw _ (List.mem_of_getElem? (i := 9) rfl)) (hw _ (List.mem_of_getElem? (i := 10) rfl)) (hw _ (List.mem_of_getElem? (i := 12) rfl)) (hw _ (List.mem_of_getElem? (i := 12) rfl)) (hw _ (List.mem_of_getElem? (i := 11) rfl)) (hw _ (List.mem_of_getElem? (i := 13) rfl)) (hw _ (List.mem_of_getElem? (i := 6) rfl)) (notFace_of_selects (args := #[]) (mvT hZ (hw _ (List.mem_of_getElem? (i := 12) rfl)))) (by decide) (c_holds2 l Z a0 hw a_LESS ((i1 &&& (1073741823 : Int32)) + (1 : Int32)) h0  F_LESS_ordinal E_LESS) q10 E_LESS (argsL := [(.int ((i1 &&& (1073741823 : Int32)) + (1 : Int32)))]) (rest := []) (g := (mkF m 24 #[.val (.int i0), .val (.int i1), .val (.int (2 : Int32)), .val (.ref a_LESS), .val (.int ((i1 &&& (1073741823 : Int32)) + (1 : Int32))), .unset] [(.int ((i1 &&& (1073741823 : Int32)) + (1 : Int32))), (.ref a_LESS)])) rfl (by rw [hml]; rfl) (ps := [.int]) (r := (some .boolean)) (by decide +kernel) rfl rfl (W := 0) (by show 2 * 0 + _ ≤ _; exact Nat.le_of_eq rfl) (hb hby at_24) (by decide) (by decide) (by decide) (by decide)
    have N11 := Fr.app N10 (Fr.nil n0)
    refine own_go st11 ?_
    show own_G p e below _ T11 (mkF m 27 #[.val (.int i0), .val (.int i1), .val (.int (2 : Int32)), .val (.ref a_LESS), .val (.int ((i1 &&& (1073741823 : Int32)) + (1 : Int32))), .unset] [(.int (own_holds2 a_LESS ((i1 &&& (1073741823 : Int32)) + (1 : Int32))))])
    have r11 : (own_holds2 a_LESS ((i1 &&& (1073741823 : Int32)) + (1 : Int32))) = (0 : Int32) := by unfold own_holds2; rw [if_neg ha2]; rfl
    rw [r11]
    show own_G p e below _ T11 (mkF m 27 #[.val (.int i0), .val (.int i1), .val (.int (2 : Int32)), .val (.ref a_LESS), .val (.int ((i1 &&& (1073741823 : Int32)) + (1 : Int32))), .unset] [(.int (0 : Int32))])
    refine own_go (fun t k => XS.aloadN X11.here hx rfl (hb hby at_27) rfl rfl k) ?_
    show own_G p e below _ T11 (mkF m 28 #[.val (.int i0), .val (.int i1), .val (.int (2 : Int32)), .val (.ref a_LESS), .val (.int ((i1 &&& (1073741823 : Int32)) + (1 : Int32))), .unset] [(.ref a_LESS), (.int (0 : Int32))])
    refine own_go (fun t k => XS.iload X11.here hx rfl (hb hby at_28) rfl k) ?_
    show own_G p e below _ T11 (mkF m 30 #[.val (.int i0), .val (.int i1), .val (.int (2 : Int32)), .val (.ref a_LESS), .val (.int ((i1 &&& (1073741823 : Int32)) + (1 : Int32))), .unset] [(.int ((i1 &&& (1073741823 : Int32)) + (1 : Int32))), (.ref a_LESS), (.int (0 : Int32))])
    refine own_go (fun t k => XS.ineg X11.here hx rfl (hb hby at_30) rfl k) ?_
    show own_G p e below _ T11 (mkF m 31 #[.val (.int i0), .val (.int i1), .val (.int (2 : Int32)), .val (.ref a_LESS), .val (.int ((i1 &&& (1073741823 : Int32)) + (1 : Int32))), .unset] [(.int (-((i1 &&& (1073741823 : Int32)) + (1 : Int32)))), (.ref a_LESS), (.int (0 : Int32))])
    obtain ⟨T12, L12, v12, X12, ⟨rfl, rfl, q12⟩, st12⟩ := own_callV X11 hx hZ (y := (⟨"com/example/quern/quern/query/ComparisonOperator", "holds", "(I)Z"⟩ : MethodName)) (z := (⟨"com/example/quern/quern/query/ComparisonOperator", "holds", "(I)Z"⟩ : MethodName)) hown (hw _ (List.mem_of_getElem? (i := 9) rfl)) (hw _ (List.mem_of_getElem? (i := 10) rfl)) (hw _ (List.mem_of_getElem? (i := 12) rfl)) (hw _ (List.mem_of_getElem? (i := 12) rfl)) (hw _ (List.mem_of_getElem? (i := 11) rfl)) (hw _ (List.mem_of_getElem? (i := 13) rfl)) (hw _ (List.mem_of_getElem? (i := 6) rfl)) (notFace_of_selects (args := #[]) (mvT hZ (hw _ (List.mem_of_getElem? (i := 12) rfl)))) (by decide) (c_holds2 l Z a0 hw a_LESS (-((i1 &&& (1073741823 : Int32)) + (1 : Int32))) h0  F_LESS_ordinal E_LESS) q11 E_LESS (argsL := [(.int (-((i1 &&& (1073741823 : Int32)) + (1 : Int32))))]) (rest := [(.int (0 : Int32))]) (g := (mkF m 31 #[.val (.int i0), .val (.int i1), .val (.int (2 : Int32)), .val (.ref a_LESS), .val (.int ((i1 &&& (1073741823 : Int32)) + (1 : Int32))), .unset] [(.int (-((i1 &&& (1073741823 : Int32)) + (1 : Int32)))), (.ref a_LESS), (.int (0 : Int32))])) rfl (by rw [hml]; rfl) (ps := [.int]) (r := (some .boolean)) (by decide +kernel) rfl rfl (W := 1) (by show 2 * 0 + _ ≤ _; exact Nat.le_of_eq rfl) (hb hby at_31) (by decide) (by decide) (by decide) (by decide)
    have N12 := Fr.app N11 (Fr.nil n0)
    refine own_go st12 ?_
    show own_G p e below _ T12 (mkF m 34 #[.val (.int i0), .val (.int i1), .val (.int (2 : Int32)), .val (.ref a_LESS), .val (.int ((i1 &&& (1073741823 : Int32)) + (1 : Int32))), .unset] [(.int (own_holds2 a_LESS (-((i1 &&& (1073741823 : Int32)) + (1 : Int32))))), (.int (0 : Int32))])
    have r12 : (own_holds2 a_LESS (-((i1 &&& (1073741823 : Int32)) + (1 : Int32)))) = (1 : Int32) := by unfold own_holds2; rw [if_pos hb2]; rfl
    rw [r12]
    show own_G p e below _ T12 (mkF m 34 #[.val (.int i0), .val (.int i1), .val (.int (2 : Int32)), .val (.ref a_LESS), .val (.int ((i1 &&& (1073741823 : Int32)) + (1 : Int32))), .unset] [(.int (1 : Int32)), (.int (0 : Int32))])
    refine own_go (fun t k => XS.icmpNo X12.here hx rfl (hb hby at_34) rfl (by decide) k) ?_
    show own_G p e below _ T12 (mkF m 37 #[.val (.int i0), .val (.int i1), .val (.int (2 : Int32)), .val (.ref a_LESS), .val (.int ((i1 &&& (1073741823 : Int32)) + (1 : Int32))), .unset] [])
    refine own_go (fun t k => XS.iconst X12.here hx rfl (hb hby at_37) k) ?_
    show own_G p e below _ T12 (mkF m 38 #[.val (.int i0), .val (.int i1), .val (.int (2 : Int32)), .val (.ref a_LESS), .val (.int ((i1 &&& (1073741823 : Int32)) + (1 : Int32))), .unset] [(.int (1 : Int32))])
    refine own_go (fun t k => XS.goto X12.here hx rfl (pc0 := 38) (pc' := 42) rfl (hb hby at_38) (by decide) (by decide) k) ?_
    show own_G p e below _ T12 (mkF m 42 #[.val (.int i0), .val (.int i1), .val (.int (2 : Int32)), .val (.ref a_LESS), .val (.int ((i1 &&& (1073741823 : Int32)) + (1 : Int32))), .unset] [(.int (1 : Int32))])
    refine own_go (fun t k => XS.istore X12.here hx rfl (hb hby at_42) rfl (l' := #[.val (.int i0), .val (.int i1), .val (.int (2 : Int32)), .val (.ref a_LESS), .val (.int ((i1 &&& (1073741823 : Int32)) + (1 : Int32))), .val (.int (1 : Int32))]) rfl k) ?_
    show own_G p e below _ T12 (mkF m 44 #[.val (.int i0), .val (.int i1), .val (.int (2 : Int32)), .val (.ref a_LESS), .val (.int ((i1 &&& (1073741823 : Int32)) + (1 : Int32))), .val (.int (1 : Int32))] [])
    refine own_go (fun t k => XS.aloadN X12.here hx rfl (hb hby at_44) rfl rfl k) ?_
    show own_G p e below _ T12 (mkF m 45 #[.val (.int i0), .val (.int i1), .val (.int (2 : Int32)), .val (.ref a_LESS), .val (.int ((i1 &&& (1073741823 : Int32)) + (1 : Int32))), .val (.int (1 : Int32))] [(.ref a_LESS)])
    obtain ⟨T13, L13, v13, X13, ⟨rfl, rfl, q13⟩, st13⟩ := own_callV X12 hx hZ (y := (⟨"com/example/quern/quern/query/ComparisonOperator", "isOrdering", "()Z"⟩ : MethodName)) (z := (⟨"com/example/quern/quern/query/ComparisonOperator", "isOrdering", "()Z"⟩ : MethodName)) hown (hw _ (List.mem_of_getElem? (i := 23) rfl)) (hw _ (List.mem_of_getElem? (i := 24) rfl)) (hw _ (List.mem_of_getElem? (i := 26) rfl)) (hw _ (List.mem_of_getElem? (i := 26) rfl)) (hw _ (List.mem_of_getElem? (i := 25) rfl)) (hw _ (List.mem_of_getElem? (i := 27) rfl)) (hw _ (List.mem_of_getElem? (i := 6) rfl)) (notFace_of_selects (args := #[]) (mvT hZ (hw _ (List.mem_of_getElem? (i := 26) rfl)))) (by decide) (c_iso l Z a0 hw a_EQUAL a_LESS a_NOT_EQUAL a_GREATER a_GREATER_OR_EQUAL a_LESS_OR_EQUAL a_LESS h0 B ) q12 E_LESS (argsL := []) (rest := []) (g := (mkF m 45 #[.val (.int i0), .val (.int i1), .val (.int (2 : Int32)), .val (.ref a_LESS), .val (.int ((i1 &&& (1073741823 : Int32)) + (1 : Int32))), .val (.int (1 : Int32))] [(.ref a_LESS)])) rfl (by rw [hml]; rfl) (ps := []) (r := (some .boolean)) (by decide +kernel) rfl rfl (W := 0) (by show 2 * 0 + _ ≤ _; exact Nat.le_of_eq rfl) (hb hby at_45) (by decide) (by decide) (by decide) (by decide)
    have N13 := Fr.app N12 (Fr.nil n0)
    refine own_go st13 ?_
    show own_G p e below _ T13 (mkF m 48 #[.val (.int i0), .val (.int i1), .val (.int (2 : Int32)), .val (.ref a_LESS), .val (.int ((i1 &&& (1073741823 : Int32)) + (1 : Int32))), .val (.int (1 : Int32))] [(.int (own_iso a_EQUAL a_LESS a_NOT_EQUAL a_GREATER a_GREATER_OR_EQUAL a_LESS_OR_EQUAL a_LESS))])
    have r13 : (own_iso a_EQUAL a_LESS a_NOT_EQUAL a_GREATER a_GREATER_OR_EQUAL a_LESS_OR_EQUAL a_LESS) = (1 : Int32) := by unfold own_iso; rw [if_neg (Fld.ne F_LESS_ordinal F_EQUAL_ordinal (own_neV (by decide))), if_neg (Fld.ne F_LESS_ordinal F_NOT_EQUAL_ordinal (own_neV (by decide)))]; rfl
    rw [r13]
    show own_G p e below _ T13 (mkF m 48 #[.val (.int i0), .val (.int i1), .val (.int (2 : Int32)), .val (.ref a_LESS), .val (.int ((i1 &&& (1073741823 : Int32)) + (1 : Int32))), .val (.int (1 : Int32))] [(.int (1 : Int32))])
    refine own_go (fun t k => XS.iload X13.here hx rfl (hb hby at_48) rfl k) ?_
    show own_G p e below _ T13 (mkF m 50 #[.val (.int i0), .val (.int i1), .val (.int (2 : Int32)), .val (.ref a_LESS), .val (.int ((i1 &&& (1073741823 : Int32)) + (1 : Int32))), .val (.int (1 : Int32))] [(.int (1 : Int32)), (.int (1 : Int32))])
    refine own_go (fun t k => XS.icmpNo X13.here hx rfl (hb hby at_50) rfl (by decide) k) ?_
    show own_G p e below _ T13 (mkF m 53 #[.val (.int i0), .val (.int i1), .val (.int (2 : Int32)), .val (.ref a_LESS), .val (.int ((i1 &&& (1073741823 : Int32)) + (1 : Int32))), .val (.int (1 : Int32))] [])
    refine own_go (fun t k => XS.iconst X13.here hx rfl (hb hby at_53) k) ?_
    show own_G p e below _ T13 (mkF m 54 #[.val (.int i0), .val (.int i1), .val (.int (2 : Int32)), .val (.ref a_LESS), .val (.int ((i1 &&& (1073741823 : Int32)) + (1 : Int32))), .val (.int (1 : Int32))] [(.int (1 : Int32))])
    refine own_go (fun t k => XS.goto X13.here hx rfl (pc0 := 54) (pc' := 58) rfl (hb hby at_54) (by decide) (by decide) k) ?_
    show own_G p e below _ T13 (mkF m 58 #[.val (.int i0), .val (.int i1), .val (.int (2 : Int32)), .val (.ref a_LESS), .val (.int ((i1 &&& (1073741823 : Int32)) + (1 : Int32))), .val (.int (1 : Int32))] [(.int (1 : Int32))])
    exact own_retN X13 hx hlk hret (by simp) (hb hby at_58) (by decide) (by decide) ⟨rfl, N13⟩
  · rw [hk1]
    show own_G p e below _ T0 (mkF m 7 #[.val (.int i0), .val (.int i1), .unset, .unset, .unset, .unset] [(.int (3 : Int32))])
    refine own_go (fun t k => XS.istoreN X0.here hx rfl (hb hby at_7) rfl (l' := #[.val (.int i0), .val (.int i1), .val (.int (3 : Int32)), .unset, .unset, .unset]) rfl k) ?_
    show own_G p e below _ T0 (mkF m 8 #[.val (.int i0), .val (.int i1), .val (.int (3 : Int32)), .unset, .unset, .unset] [])
    refine own_go (fun t k => XS.iloadN X0.here hx rfl (hb hby at_8) rfl k) ?_
    show own_G p e below _ T0 (mkF m 9 #[.val (.int i0), .val (.int i1), .val (.int (3 : Int32)), .unset, .unset, .unset] [(.int (3 : Int32))])
    obtain ⟨T14, L14, v14, X14, ⟨rfl, rfl, q14⟩, st14⟩ := own_callS X0 hx hZ (y := (⟨"com/example/quern/quern/query/ComparisonOperatorIsOrderingPinLaw", "pick", "(I)Lcom/example/quern/quern/query/ComparisonOperator;"⟩ : MethodName)) hown (hw _ (List.mem_of_getElem? (i := 1) rfl)) (hw _ (List.mem_of_getElem? (i := 2) rfl)) (hw _ (List.mem_of_getElem? (i := 3) rfl)) (hw _ (List.mem_of_getElem? (i := 4) rfl)) (by decide) (c_pick l Z a0 hw a_EQUAL a_LESS a_NOT_EQUAL a_GREATER a_GREATER_OR_EQUAL a_LESS_OR_EQUAL (3 : Int32) h0 B ) e0 (argsL := [(.int (3 : Int32))]) (rest := []) (g := (mkF m 9 #[.val (.int i0), .val (.int i1), .val (.int (3 : Int32)), .unset, .unset, .unset] [(.int (3 : Int32))])) rfl (by rw [hml]; rfl) (ps := [.int]) (r := (some (.object "com/example/quern/quern/query/ComparisonOperator"))) (by decide +kernel) rfl rfl (W := 0) (by show 2 * 0 + _ ≤ _; exact Nat.le_of_eq rfl) (hb hby at_9) (by decide) (by decide) (by decide) (by decide)
    have N14 := Fr.app N0 (Fr.nil n0)
    refine own_go st14 ?_
    show own_G p e below _ T14 (mkF m 12 #[.val (.int i0), .val (.int i1), .val (.int (3 : Int32)), .unset, .unset, .unset] [(.ref (own_pick a_EQUAL a_LESS a_NOT_EQUAL a_GREATER a_GREATER_OR_EQUAL a_LESS_OR_EQUAL (3 : Int32)))])
    have r14 : (own_pick a_EQUAL a_LESS a_NOT_EQUAL a_GREATER a_GREATER_OR_EQUAL a_LESS_OR_EQUAL (3 : Int32)) = a_LESS_OR_EQUAL := by unfold own_pick; rw [if_neg (show ¬ ((3 : Int32) = (0 : Int32)) by decide), if_neg (show ¬ ((3 : Int32) = (1 : Int32)) by decide), if_neg (show ¬ ((3 : Int32) = (2 : Int32)) by decide), if_pos (show ((3 : Int32) = (3 : Int32)) by decide)]
    rw [r14]
    show own_G p e below _ T14 (mkF m 12 #[.val (.int i0), .val (.int i1), .val (.int (3 : Int32)), .unset, .unset, .unset] [(.ref a_LESS_OR_EQUAL)])
    refine own_go (fun t k => XS.astoreN X14.here hx rfl (hb hby at_12) rfl rfl (l' := #[.val (.int i0), .val (.int i1), .val (.int (3 : Int32)), .val (.ref a_LESS_OR_EQUAL), .unset, .unset]) rfl k) ?_
    show own_G p e below _ T14 (mkF m 13 #[.val (.int i0), .val (.int i1), .val (.int (3 : Int32)), .val (.ref a_LESS_OR_EQUAL), .unset, .unset] [])
    refine own_go (fun t k => XS.iloadN X14.here hx rfl (hb hby at_13) rfl k) ?_
    show own_G p e below _ T14 (mkF m 14 #[.val (.int i0), .val (.int i1), .val (.int (3 : Int32)), .val (.ref a_LESS_OR_EQUAL), .unset, .unset] [(.int i1)])
    refine own_go (X14.ldcInt hx hown (mvT hZ (hw _ (List.mem_of_getElem? (i := 8) rfl))) (g := (mkF m 14 #[.val (.int i0), .val (.int i1), .val (.int (3 : Int32)), .val (.ref a_LESS_OR_EQUAL), .unset, .unset] [(.int i1)])) rfl (hb hby at_14)) ?_
    show own_G p e below _ T14 (mkF m 16 #[.val (.int i0), .val (.int i1), .val (.int (3 : Int32)), .val (.ref a_LESS_OR_EQUAL), .unset, .unset] [(.int (1073741823 : Int32)), (.int i1)])
    refine own_go (fun t k => XS.iand X14.here hx rfl (hb hby at_16) rfl k) ?_
    show own_G p e below _ T14 (mkF m 17 #[.val (.int i0), .val (.int i1), .val (.int (3 : Int32)), .val (.ref a_LESS_OR_EQUAL), .unset, .unset] [(.int (i1 &&& (1073741823 : Int32)))])
    refine own_go (fun t k => XS.iconst X14.here hx rfl (hb hby at_17) k) ?_
    show own_G p e below _ T14 (mkF m 18 #[.val (.int i0), .val (.int i1), .val (.int (3 : Int32)), .val (.ref a_LESS_OR_EQUAL), .unset, .unset] [(.int (1 : Int32)), (.int (i1 &&& (1073741823 : Int32)))])
    refine own_go (fun t k => XS.iadd X14.here hx rfl (hb hby at_18) rfl k) ?_
    show own_G p e below _ T14 (mkF m 19 #[.val (.int i0), .val (.int i1), .val (.int (3 : Int32)), .val (.ref a_LESS_OR_EQUAL), .unset, .unset] [(.int ((i1 &&& (1073741823 : Int32)) + (1 : Int32)))])
    refine own_go (fun t k => XS.istore X14.here hx rfl (hb hby at_19) rfl (l' := #[.val (.int i0), .val (.int i1), .val (.int (3 : Int32)), .val (.ref a_LESS_OR_EQUAL), .val (.int ((i1 &&& (1073741823 : Int32)) + (1 : Int32))), .unset]) rfl k) ?_
    show own_G p e below _ T14 (mkF m 21 #[.val (.int i0), .val (.int i1), .val (.int (3 : Int32)), .val (.ref a_LESS_OR_EQUAL), .val (.int ((i1 &&& (1073741823 : Int32)) + (1 : Int32))), .unset] [])
    refine own_go (fun t k => XS.aloadN X14.here hx rfl (hb hby at_21) rfl rfl k) ?_
    show own_G p e below _ T14 (mkF m 22 #[.val (.int i0), .val (.int i1), .val (.int (3 : Int32)), .val (.ref a_LESS_OR_EQUAL), .val (.int ((i1 &&& (1073741823 : Int32)) + (1 : Int32))), .unset] [(.ref a_LESS_OR_EQUAL)])
    refine own_go (fun t k => XS.iload X14.here hx rfl (hb hby at_22) rfl k) ?_
    show own_G p e below _ T14 (mkF m 24 #[.val (.int i0), .val (.int i1), .val (.int (3 : Int32)), .val (.ref a_LESS_OR_EQUAL), .val (.int ((i1 &&& (1073741823 : Int32)) + (1 : Int32))), .unset] [(.int ((i1 &&& (1073741823 : Int32)) + (1 : Int32))), (.ref a_LESS_OR_EQUAL)])
    obtain ⟨T15, L15, v15, X15, ⟨rfl, rfl, q15⟩, st15⟩ := own_callV X14 hx hZ (y := (⟨"com/example/quern/quern/query/ComparisonOperator", "holds", "(I)Z"⟩ : MethodName)) (z := (⟨"com/example/quern/quern/query/ComparisonOperator", "holds", "(I)Z"⟩ : MethodName)) hown (hw _ (List.mem_of_getElem? (i := 9) rfl)) (hw _ (List.mem_of_getElem? (i := 10) rfl)) (hw _ (List.mem_of_getElem? (i := 12) rfl)) (hw _ (List.mem_of_getElem? (i := 12) rfl)) (hw _ (List.mem_of_getElem? (i := 11) rfl)) (hw _ (List.mem_of_getElem? (i := 13) rfl)) (hw _ (List.mem_of_getElem? (i := 6) rfl)) (notFace_of_selects (args := #[]) (mvT hZ (hw _ (List.mem_of_getElem? (i := 12) rfl)))) (by decide) (c_holds3 l Z a0 hw a_LESS_OR_EQUAL ((i1 &&& (1073741823 : Int32)) + (1 : Int32)) h0  F_LESS_OR_EQUAL_ordinal E_LESS_OR_EQUAL) q14 E_LESS_OR_EQUAL (argsL := [(.int ((i1 &&& (1073741823 : Int32)) + (1 : Int32)))]) (rest := []) (g := (mkF m 24 #[.val (.int i0), .val (.int i1), .val (.int (3 : Int32)), .val (.ref a_LESS_OR_EQUAL), .val (.int ((i1 &&& (1073741823 : Int32)) + (1 : Int32))), .unset] [(.int ((i1 &&& (1073741823 : Int32)) + (1 : Int32))), (.ref a_LESS_OR_EQUAL)])) rfl (by rw [hml]; rfl) (ps := [.int]) (r := (some .boolean)) (by decide +kernel) rfl rfl (W := 0) (by show 2 * 0 + _ ≤ _; exact Nat.le_of_eq rfl) (hb hby at_24) (by decide) (by decide) (by decide) (by decide)
    have N15 := Fr.app N14 (Fr.nil n0)
    refine own_go st15 ?_
    show own_G p e below _ T15 (mkF m 27 #[.val (.int i0), .val (.int i1), .val (.int (3 : Int32)), .val (.ref a_LESS_OR_EQUAL), .val (.int ((i1 &&& (1073741823 : Int32)) + (1 : Int32))), .unset] [(.int (own_holds3 a_LESS_OR_EQUAL ((i1 &&& (1073741823 : Int32)) + (1 : Int32))))])
    have r15 : (own_holds3 a_LESS_OR_EQUAL ((i1 &&& (1073741823 : Int32)) + (1 : Int32))) = (0 : Int32) := by unfold own_holds3; rw [if_pos ha3]; rfl
    rw [r15]
    show own_G p e below _ T15 (mkF m 27 #[.val (.int i0), .val (.int i1), .val (.int (3 : Int32)), .val (.ref a_LESS_OR_EQUAL), .val (.int ((i1 &&& (1073741823 : Int32)) + (1 : Int32))), .unset] [(.int (0 : Int32))])
    refine own_go (fun t k => XS.aloadN X15.here hx rfl (hb hby at_27) rfl rfl k) ?_
    show own_G p e below _ T15 (mkF m 28 #[.val (.int i0), .val (.int i1), .val (.int (3 : Int32)), .val (.ref a_LESS_OR_EQUAL), .val (.int ((i1 &&& (1073741823 : Int32)) + (1 : Int32))), .unset] [(.ref a_LESS_OR_EQUAL), (.int (0 : Int32))])
    refine own_go (fun t k => XS.iload X15.here hx rfl (hb hby at_28) rfl k) ?_
    show own_G p e below _ T15 (mkF m 30 #[.val (.int i0), .val (.int i1), .val (.int (3 : Int32)), .val (.ref a_LESS_OR_EQUAL), .val (.int ((i1 &&& (1073741823 : Int32)) + (1 : Int32))), .unset] [(.int ((i1 &&& (1073741823 : Int32)) + (1 : Int32))), (.ref a_LESS_OR_EQUAL), (.int (0 : Int32))])
    refine own_go (fun t k => XS.ineg X15.here hx rfl (hb hby at_30) rfl k) ?_
    show own_G p e below _ T15 (mkF m 31 #[.val (.int i0), .val (.int i1), .val (.int (3 : Int32)), .val (.ref a_LESS_OR_EQUAL), .val (.int ((i1 &&& (1073741823 : Int32)) + (1 : Int32))), .unset] [(.int (-((i1 &&& (1073741823 : Int32)) + (1 : Int32)))), (.ref a_LESS_OR_EQUAL), (.int (0 : Int32))])
    obtain ⟨T16, L16, v16, X16, ⟨rfl, rfl, q16⟩, st16⟩ := own_callV X15 hx hZ (y := (⟨"com/example/quern/quern/query/ComparisonOperator", "holds", "(I)Z"⟩ : MethodName)) (z := (⟨"com/example/quern/quern/query/ComparisonOperator", "holds", "(I)Z"⟩ : MethodName)) hown (hw _ (List.mem_of_getElem? (i := 9) rfl)) (hw _ (List.mem_of_getElem? (i := 10) rfl)) (hw _ (List.mem_of_getElem? (i := 12) rfl)) (hw _ (List.mem_of_getElem? (i := 12) rfl)) (hw _ (List.mem_of_getElem? (i := 11) rfl)) (hw _ (List.mem_of_getElem? (i := 13) rfl)) (hw _ (List.mem_of_getElem? (i := 6) rfl)) (notFace_of_selects (args := #[]) (mvT hZ (hw _ (List.mem_of_getElem? (i := 12) rfl)))) (by decide) (c_holds3 l Z a0 hw a_LESS_OR_EQUAL (-((i1 &&& (1073741823 : Int32)) + (1 : Int32))) h0  F_LESS_OR_EQUAL_ordinal E_LESS_OR_EQUAL) q15 E_LESS_OR_EQUAL (argsL := [(.int (-((i1 &&& (1073741823 : Int32)) + (1 : Int32))))]) (rest := [(.int (0 : Int32))]) (g := (mkF m 31 #[.val (.int i0), .val (.int i1), .val (.int (3 : Int32)), .val (.ref a_LESS_OR_EQUAL), .val (.int ((i1 &&& (1073741823 : Int32)) + (1 : Int32))), .unset] [(.int (-((i1 &&& (1073741823 : Int32)) + (1 : Int32)))), (.ref a_LESS_OR_EQUAL), (.int (0 : Int32))])) rfl (by rw [hml]; rfl) (ps := [.int]) (r := (some .boolean)) (by decide +kernel) rfl rfl (W := 1) (by show 2 * 0 + _ ≤ _; exact Nat.le_of_eq rfl) (hb hby at_31) (by decide) (by decide) (by decide) (by decide)
    have N16 := Fr.app N15 (Fr.nil n0)
    refine own_go st16 ?_
    show own_G p e below _ T16 (mkF m 34 #[.val (.int i0), .val (.int i1), .val (.int (3 : Int32)), .val (.ref a_LESS_OR_EQUAL), .val (.int ((i1 &&& (1073741823 : Int32)) + (1 : Int32))), .unset] [(.int (own_holds3 a_LESS_OR_EQUAL (-((i1 &&& (1073741823 : Int32)) + (1 : Int32))))), (.int (0 : Int32))])
    have r16 : (own_holds3 a_LESS_OR_EQUAL (-((i1 &&& (1073741823 : Int32)) + (1 : Int32)))) = (1 : Int32) := by unfold own_holds3; rw [if_neg hb3]; rfl
    rw [r16]
    show own_G p e below _ T16 (mkF m 34 #[.val (.int i0), .val (.int i1), .val (.int (3 : Int32)), .val (.ref a_LESS_OR_EQUAL), .val (.int ((i1 &&& (1073741823 : Int32)) + (1 : Int32))), .unset] [(.int (1 : Int32)), (.int (0 : Int32))])
    refine own_go (fun t k => XS.icmpNo X16.here hx rfl (hb hby at_34) rfl (by decide) k) ?_
    show own_G p e below _ T16 (mkF m 37 #[.val (.int i0), .val (.int i1), .val (.int (3 : Int32)), .val (.ref a_LESS_OR_EQUAL), .val (.int ((i1 &&& (1073741823 : Int32)) + (1 : Int32))), .unset] [])
    refine own_go (fun t k => XS.iconst X16.here hx rfl (hb hby at_37) k) ?_
    show own_G p e below _ T16 (mkF m 38 #[.val (.int i0), .val (.int i1), .val (.int (3 : Int32)), .val (.ref a_LESS_OR_EQUAL), .val (.int ((i1 &&& (1073741823 : Int32)) + (1 : Int32))), .unset] [(.int (1 : Int32))])
    refine own_go (fun t k => XS.goto X16.here hx rfl (pc0 := 38) (pc' := 42) rfl (hb hby at_38) (by decide) (by decide) k) ?_
    show own_G p e below _ T16 (mkF m 42 #[.val (.int i0), .val (.int i1), .val (.int (3 : Int32)), .val (.ref a_LESS_OR_EQUAL), .val (.int ((i1 &&& (1073741823 : Int32)) + (1 : Int32))), .unset] [(.int (1 : Int32))])
    refine own_go (fun t k => XS.istore X16.here hx rfl (hb hby at_42) rfl (l' := #[.val (.int i0), .val (.int i1), .val (.int (3 : Int32)), .val (.ref a_LESS_OR_EQUAL), .val (.int ((i1 &&& (1073741823 : Int32)) + (1 : Int32))), .val (.int (1 : Int32))]) rfl k) ?_
    show own_G p e below _ T16 (mkF m 44 #[.val (.int i0), .val (.int i1), .val (.int (3 : Int32)), .val (.ref a_LESS_OR_EQUAL), .val (.int ((i1 &&& (1073741823 : Int32)) + (1 : Int32))), .val (.int (1 : Int32))] [])
    refine own_go (fun t k => XS.aloadN X16.here hx rfl (hb hby at_44) rfl rfl k) ?_
    show own_G p e below _ T16 (mkF m 45 #[.val (.int i0), .val (.int i1), .val (.int (3 : Int32)), .val (.ref a_LESS_OR_EQUAL), .val (.int ((i1 &&& (1073741823 : Int32)) + (1 : Int32))), .val (.int (1 : Int32))] [(.ref a_LESS_OR_EQUAL)])
    obtain ⟨T17, L17, v17, X17, ⟨rfl, rfl, q17⟩, st17⟩ := own_callV X16 hx hZ (y := (⟨"com/example/quern/quern/query/ComparisonOperator", "isOrdering", "()Z"⟩ : MethodName)) (z := (⟨"com/example/quern/quern/query/ComparisonOperator", "isOrdering", "()Z"⟩ : MethodName)) hown (hw _ (List.mem_of_getElem? (i := 23) rfl)) (hw _ (List.mem_of_getElem? (i := 24) rfl)) (hw _ (List.mem_of_getElem? (i := 26) rfl)) (hw _ (List.mem_of_getElem? (i := 26) rfl)) (hw _ (List.mem_of_getElem? (i := 25) rfl)) (hw _ (List.mem_of_getElem? (i := 27) rfl)) (hw _ (List.mem_of_getElem? (i := 6) rfl)) (notFace_of_selects (args := #[]) (mvT hZ (hw _ (List.mem_of_getElem? (i := 26) rfl)))) (by decide) (c_iso l Z a0 hw a_EQUAL a_LESS a_NOT_EQUAL a_GREATER a_GREATER_OR_EQUAL a_LESS_OR_EQUAL a_LESS_OR_EQUAL h0 B ) q16 E_LESS_OR_EQUAL (argsL := []) (rest := []) (g := (mkF m 45 #[.val (.int i0), .val (.int i1), .val (.int (3 : Int32)), .val (.ref a_LESS_OR_EQUAL), .val (.int ((i1 &&& (1073741823 : Int32)) + (1 : Int32))), .val (.int (1 : Int32))] [(.ref a_LESS_OR_EQUAL)])) rfl (by rw [hml]; rfl) (ps := []) (r := (some .boolean)) (by decide +kernel) rfl rfl (W := 0) (by show 2 * 0 + _ ≤ _; exact Nat.le_of_eq rfl) (hb hby at_45) (by decide) (by decide) (by decide) (by decide)
    have N17 := Fr.app N16 (Fr.nil n0)
    refine own_go st17 ?_
    show own_G p e below _ T17 (mkF m 48 #[.val (.int i0), .val (.int i1), .val (.int (3 : Int32)), .val (.ref a_LESS_OR_EQUAL), .val (.int ((i1 &&& (1073741823 : Int32)) + (1 : Int32))), .val (.int (1 : Int32))] [(.int (own_iso a_EQUAL a_LESS a_NOT_EQUAL a_GREATER a_GREATER_OR_EQUAL a_LESS_OR_EQUAL a_LESS_OR_EQUAL))])
    have r17 : (own_iso a_EQUAL a_LESS a_NOT_EQUAL a_GREATER a_GREATER_OR_EQUAL a_LESS_OR_EQUAL a_LESS_OR_EQUAL) = (1 : Int32) := by unfold own_iso; rw [if_neg (Fld.ne F_LESS_OR_EQUAL_ordinal F_EQUAL_ordinal (own_neV (by decide))), if_neg (Fld.ne F_LESS_OR_EQUAL_ordinal F_NOT_EQUAL_ordinal (own_neV (by decide)))]; rfl
    rw [r17]
    show own_G p e below _ T17 (mkF m 48 #[.val (.int i0), .val (.int i1), .val (.int (3 : Int32)), .val (.ref a_LESS_OR_EQUAL), .val (.int ((i1 &&& (1073741823 : Int32)) + (1 : Int32))), .val (.int (1 : Int32))] [(.int (1 : Int32))])
    refine own_go (fun t k => XS.iload X17.here hx rfl (hb hby at_48) rfl k) ?_
    show own_G p e below _ T17 (mkF m 50 #[.val (.int i0), .val (.int i1), .val (.int (3 : Int32)), .val (.ref a_LESS_OR_EQUAL), .val (.int ((i1 &&& (1073741823 : Int32)) + (1 : Int32))), .val (.int (1 : Int32))] [(.int (1 : Int32)), (.int (1 : Int32))])
    refine own_go (fun t k => XS.icmpNo X17.here hx rfl (hb hby at_50) rfl (by decide) k) ?_
    show own_G p e below _ T17 (mkF m 53 #[.val (.int i0), .val (.int i1), .val (.int (3 : Int32)), .val (.ref a_LESS_OR_EQUAL), .val (.int ((i1 &&& (1073741823 : Int32)) + (1 : Int32))), .val (.int (1 : Int32))] [])
    refine own_go (fun t k => XS.iconst X17.here hx rfl (hb hby at_53) k) ?_
    show own_G p e below _ T17 (mkF m 54 #[.val (.int i0), .val (.int i1), .val (.int (3 : Int32)), .val (.ref a_LESS_OR_EQUAL), .val (.int ((i1 &&& (1073741823 : Int32)) + (1 : Int32))), .val (.int (1 : Int32))] [(.int (1 : Int32))])
    refine own_go (fun t k => XS.goto X17.here hx rfl (pc0 := 54) (pc' := 58) rfl (hb hby at_54) (by decide) (by decide) k) ?_
    show own_G p e below _ T17 (mkF m 58 #[.val (.int i0), .val (.int i1), .val (.int (3 : Int32)), .val (.ref a_LESS_OR_EQUAL), .val (.int ((i1 &&& (1073741823 : Int32)) + (1 : Int32))), .val (.int (1 : Int32))] [(.int (1 : Int32))])
    exact own_retN X17 hx hlk hret (by simp) (hb hby at_58) (by decide) (by decide) ⟨rfl, N17⟩
  · rw [hk1]
    show own_G p e below _ T0 (mkF m 7 #[.val (.int i0), .val (.int i1), .unset, .unset, .unset, .unset] [(.int (4 : Int32))])
    refine own_go (fun t k => XS.istoreN X0.here hx rfl (hb hby at_7) rfl (l' := #[.val (.int i0), .val (.int i1), .val (.int (4 : Int32)), .unset, .unset, .unset]) rfl k) ?_
    show own_G p e below _ T0 (mkF m 8 #[.val (.int i0), .val (.int i1), .val (.int (4 : Int32)), .unset, .unset, .unset] [])
    refine own_go (fun t k => XS.iloadN X0.here hx rfl (hb hby at_8) rfl k) ?_
    show own_G p e below _ T0 (mkF m 9 #[.val (.int i0), .val (.int i1), .val (.int (4 : Int32)), .unset, .unset, .unset] [(.int (4 : Int32))])
    obtain ⟨T18, L18, v18, X18, ⟨rfl, rfl, q18⟩, st18⟩ := own_callS X0 hx hZ (y := (⟨"com/example/quern/quern/query/ComparisonOperatorIsOrderingPinLaw", "pick", "(I)Lcom/example/quern/quern/query/ComparisonOperator;"⟩ : MethodName)) hown (hw _ (List.mem_of_getElem? (i := 1) rfl)) (hw _ (List.mem_of_getElem? (i := 2) rfl)) (hw _ (List.mem_of_getElem? (i := 3) rfl)) (hw _ (List.mem_of_getElem? (i := 4) rfl)) (by decide) (c_pick l Z a0 hw a_EQUAL a_LESS a_NOT_EQUAL a_GREATER a_GREATER_OR_EQUAL a_LESS_OR_EQUAL (4 : Int32) h0 B ) e0 (argsL := [(.int (4 : Int32))]) (rest := []) (g := (mkF m 9 #[.val (.int i0), .val (.int i1), .val (.int (4 : Int32)), .unset, .unset, .unset] [(.int (4 : Int32))])) rfl (by rw [hml]; rfl) (ps := [.int]) (r := (some (.object "com/example/quern/quern/query/ComparisonOperator"))) (by decide +kernel) rfl rfl (W := 0) (by show 2 * 0 + _ ≤ _; exact Nat.le_of_eq rfl) (hb hby at_9) (by decide) (by decide) (by decide) (by decide)
    have N18 := Fr.app N0 (Fr.nil n0)
    refine own_go st18 ?_
    show own_G p e below _ T18 (mkF m 12 #[.val (.int i0), .val (.int i1), .val (.int (4 : Int32)), .unset, .unset, .unset] [(.ref (own_pick a_EQUAL a_LESS a_NOT_EQUAL a_GREATER a_GREATER_OR_EQUAL a_LESS_OR_EQUAL (4 : Int32)))])
    have r18 : (own_pick a_EQUAL a_LESS a_NOT_EQUAL a_GREATER a_GREATER_OR_EQUAL a_LESS_OR_EQUAL (4 : Int32)) = a_GREATER := by unfold own_pick; rw [if_neg (show ¬ ((4 : Int32) = (0 : Int32)) by decide), if_neg (show ¬ ((4 : Int32) = (1 : Int32)) by decide), if_neg (show ¬ ((4 : Int32) = (2 : Int32)) by decide), if_neg (show ¬ ((4 : Int32) = (3 : Int32)) by decide), if_pos (show ((4 : Int32) = (4 : Int32)) by decide)]
    rw [r18]
    show own_G p e below _ T18 (mkF m 12 #[.val (.int i0), .val (.int i1), .val (.int (4 : Int32)), .unset, .unset, .unset] [(.ref a_GREATER)])
    refine own_go (fun t k => XS.astoreN X18.here hx rfl (hb hby at_12) rfl rfl (l' := #[.val (.int i0), .val (.int i1), .val (.int (4 : Int32)), .val (.ref a_GREATER), .unset, .unset]) rfl k) ?_
    show own_G p e below _ T18 (mkF m 13 #[.val (.int i0), .val (.int i1), .val (.int (4 : Int32)), .val (.ref a_GREATER), .unset, .unset] [])
    refine own_go (fun t k => XS.iloadN X18.here hx rfl (hb hby at_13) rfl k) ?_
    show own_G p e below _ T18 (mkF m 14 #[.val (.int i0), .val (.int i1), .val (.int (4 : Int32)), .val (.ref a_GREATER), .unset, .unset] [(.int i1)])
    refine own_go (X18.ldcInt hx hown (mvT hZ (hw _ (List.mem_of_getElem? (i := 8) rfl))) (g := (mkF m 14 #[.val (.int i0), .val (.int i1), .val (.int (4 : Int32)), .val (.ref a_GREATER), .unset, .unset] [(.int i1)])) rfl (hb hby at_14)) ?_
    show own_G p e below _ T18 (mkF m 16 #[.val (.int i0), .val (.int i1), .val (.int (4 : Int32)), .val (.ref a_GREATER), .unset, .unset] [(.int (1073741823 : Int32)), (.int i1)])
    refine own_go (fun t k => XS.iand X18.here hx rfl (hb hby at_16) rfl k) ?_
    show own_G p e below _ T18 (mkF m 17 #[.val (.int i0), .val (.int i1), .val (.int (4 : Int32)), .val (.ref a_GREATER), .unset, .unset] [(.int (i1 &&& (1073741823 : Int32)))])
    refine own_go (fun t k => XS.iconst X18.here hx rfl (hb hby at_17) k) ?_
    show own_G p e below _ T18 (mkF m 18 #[.val (.int i0), .val (.int i1), .val (.int (4 : Int32)), .val (.ref a_GREATER), .unset, .unset] [(.int (1 : Int32)), (.int (i1 &&& (1073741823 : Int32)))])
    refine own_go (fun t k => XS.iadd X18.here hx rfl (hb hby at_18) rfl k) ?_
    show own_G p e below _ T18 (mkF m 19 #[.val (.int i0), .val (.int i1), .val (.int (4 : Int32)), .val (.ref a_GREATER), .unset, .unset] [(.int ((i1 &&& (1073741823 : Int32)) + (1 : Int32)))])
    refine own_go (fun t k => XS.istore X18.here hx rfl (hb hby at_19) rfl (l' := #[.val (.int i0), .val (.int i1), .val (.int (4 : Int32)), .val (.ref a_GREATER), .val (.int ((i1 &&& (1073741823 : Int32)) + (1 : Int32))), .unset]) rfl k) ?_
    show own_G p e below _ T18 (mkF m 21 #[.val (.int i0), .val (.int i1), .val (.int (4 : Int32)), .val (.ref a_GREATER), .val (.int ((i1 &&& (1073741823 : Int32)) + (1 : Int32))), .unset] [])
    refine own_go (fun t k => XS.aloadN X18.here hx rfl (hb hby at_21) rfl rfl k) ?_
    show own_G p e below _ T18 (mkF m 22 #[.val (.int i0), .val (.int i1), .val (.int (4 : Int32)), .val (.ref a_GREATER), .val (.int ((i1 &&& (1073741823 : Int32)) + (1 : Int32))), .unset] [(.ref a_GREATER)])
    refine own_go (fun t k => XS.iload X18.here hx rfl (hb hby at_22) rfl k) ?_
    show own_G p e below _ T18 (mkF m 24 #[.val (.int i0), .val (.int i1), .val (.int (4 : Int32)), .val (.ref a_GREATER), .val (.int ((i1 &&& (1073741823 : Int32)) + (1 : Int32))), .unset] [(.int ((i1 &&& (1073741823 : Int32)) + (1 : Int32))), (.ref a_GREATER)])
    obtain ⟨T19, L19, v19, X19, ⟨rfl, rfl, q19⟩, st19⟩ := own_callV X18 hx hZ (y := (⟨"com/example/quern/quern/query/ComparisonOperator", "holds", "(I)Z"⟩ : MethodName)) (z := (⟨"com/example/quern/quern/query/ComparisonOperator", "holds", "(I)Z"⟩ : MethodName)) hown (hw _ (List.mem_of_getElem? (i := 9) rfl)) (hw _ (List.mem_of_getElem? (i := 10) rfl)) (hw _ (List.mem_of_getElem? (i := 12) rfl)) (hw _ (List.mem_of_getElem? (i := 12) rfl)) (hw _ (List.mem_of_getElem? (i := 11) rfl)) (hw _ (List.mem_of_getElem? (i := 13) rfl)) (hw _ (List.mem_of_getElem? (i := 6) rfl)) (notFace_of_selects (args := #[]) (mvT hZ (hw _ (List.mem_of_getElem? (i := 12) rfl)))) (by decide) (c_holds4 l Z a0 hw a_GREATER ((i1 &&& (1073741823 : Int32)) + (1 : Int32)) h0  F_GREATER_ordinal E_GREATER) q18 E_GREATER (argsL := [(.int ((i1 &&& (1073741823 : Int32)) + (1 : Int32)))]) (rest := []) (g := (mkF m 24 #[.val (.int i0), .val (.int i1), .val (.int (4 : Int32)), .val (.ref a_GREATER), .val (.int ((i1 &&& (1073741823 : Int32)) + (1 : Int32))), .unset] [(.int ((i1 &&& (1073741823 : Int32)) + (1 : Int32))), (.ref a_GREATER)])) rfl (by rw [hml]; rfl) (ps := [.int]) (r := (some .boolean)) (by decide +kernel) rfl rfl (W := 0) (by show 2 * 0 + _ ≤ _; exact Nat.le_of_eq rfl) (hb hby at_24) (by decide) (by decide) (by decide) (by decide)
    have N19 := Fr.app N18 (Fr.nil n0)
    refine own_go st19 ?_
    show own_G p e below _ T19 (mkF m 27 #[.val (.int i0), .val (.int i1), .val (.int (4 : Int32)), .val (.ref a_GREATER), .val (.int ((i1 &&& (1073741823 : Int32)) + (1 : Int32))), .unset] [(.int (own_holds4 a_GREATER ((i1 &&& (1073741823 : Int32)) + (1 : Int32))))])
    have r19 : (own_holds4 a_GREATER ((i1 &&& (1073741823 : Int32)) + (1 : Int32))) = (1 : Int32) := by unfold own_holds4; rw [if_pos ha3]; rfl
    rw [r19]
    show own_G p e below _ T19 (mkF m 27 #[.val (.int i0), .val (.int i1), .val (.int (4 : Int32)), .val (.ref a_GREATER), .val (.int ((i1 &&& (1073741823 : Int32)) + (1 : Int32))), .unset] [(.int (1 : Int32))])
    refine own_go (fun t k => XS.aloadN X19.here hx rfl (hb hby at_27) rfl rfl k) ?_
    show own_G p e below _ T19 (mkF m 28 #[.val (.int i0), .val (.int i1), .val (.int (4 : Int32)), .val (.ref a_GREATER), .val (.int ((i1 &&& (1073741823 : Int32)) + (1 : Int32))), .unset] [(.ref a_GREATER), (.int (1 : Int32))])
    refine own_go (fun t k => XS.iload X19.here hx rfl (hb hby at_28) rfl k) ?_
    show own_G p e below _ T19 (mkF m 30 #[.val (.int i0), .val (.int i1), .val (.int (4 : Int32)), .val (.ref a_GREATER), .val (.int ((i1 &&& (1073741823 : Int32)) + (1 : Int32))), .unset] [(.int ((i1 &&& (1073741823 : Int32)) + (1 : Int32))), (.ref a_GREATER), (.int (1 : Int32))])
    refine own_go (fun t k => XS.ineg X19.here hx rfl (hb hby at_30) rfl k) ?_
    show own_G p e below _ T19 (mkF m 31 #[.val (.int i0), .val (.int i1), .val (.int (4 : Int32)), .val (.ref a_GREATER), .val (.int ((i1 &&& (1073741823 : Int32)) + (1 : Int32))), .unset] [(.int (-((i1 &&& (1073741823 : Int32)) + (1 : Int32)))), (.ref a_GREATER), (.int (1 : Int32))])
    obtain ⟨T20, L20, v20, X20, ⟨rfl, rfl, q20⟩, st20⟩ := own_callV X19 hx hZ (y := (⟨"com/example/quern/quern/query/ComparisonOperator", "holds", "(I)Z"⟩ : MethodName)) (z := (⟨"com/example/quern/quern/query/ComparisonOperator", "holds", "(I)Z"⟩ : MethodName)) hown (hw _ (List.mem_of_getElem? (i := 9) rfl)) (hw _ (List.mem_of_getElem? (i := 10) rfl)) (hw _ (List.mem_of_getElem? (i := 12) rfl)) (hw _ (List.mem_of_getElem? (i := 12) rfl)) (hw _ (List.mem_of_getElem? (i := 11) rfl)) (hw _ (List.mem_of_getElem? (i := 13) rfl)) (hw _ (List.mem_of_getElem? (i := 6) rfl)) (notFace_of_selects (args := #[]) (mvT hZ (hw _ (List.mem_of_getElem? (i := 12) rfl)))) (by decide) (c_holds4 l Z a0 hw a_GREATER (-((i1 &&& (1073741823 : Int32)) + (1 : Int32))) h0  F_GREATER_ordinal E_GREATER) q19 E_GREATER (argsL := [(.int (-((i1 &&& (1073741823 : Int32)) + (1 : Int32))))]) (rest := [(.int (1 : Int32))]) (g := (mkF m 31 #[.val (.int i0), .val (.int i1), .val (.int (4 : Int32)), .val (.ref a_GREATER), .val (.int ((i1 &&& (1073741823 : Int32)) + (1 : Int32))), .unset] [(.int (-((i1 &&& (1073741823 : Int32)) + (1 : Int32)))), (.ref a_GREATER), (.int (1 : Int32))])) rfl (by rw [hml]; rfl) (ps := [.int]) (r := (some .boolean)) (by decide +kernel) rfl rfl (W := 1) (by show 2 * 0 + _ ≤ _; exact Nat.le_of_eq rfl) (hb hby at_31) (by decide) (by decide) (by decide) (by decide)
    have N20 := Fr.app N19 (Fr.nil n0)
    refine own_go st20 ?_
    show own_G p e below _ T20 (mkF m 34 #[.val (.int i0), .val (.int i1), .val (.int (4 : Int32)), .val (.ref a_GREATER), .val (.int ((i1 &&& (1073741823 : Int32)) + (1 : Int32))), .unset] [(.int (own_holds4 a_GREATER (-((i1 &&& (1073741823 : Int32)) + (1 : Int32))))), (.int (1 : Int32))])
    have r20 : (own_holds4 a_GREATER (-((i1 &&& (1073741823 : Int32)) + (1 : Int32)))) = (0 : Int32) := by unfold own_holds4; rw [if_neg hb3]; rfl
    rw [r20]
    show own_G p e below _ T20 (mkF m 34 #[.val (.int i0), .val (.int i1), .val (.int (4 : Int32)), .val (.ref a_GREATER), .val (.int ((i1 &&& (1073741823 : Int32)) + (1 : Int32))), .unset] [(.int (0 : Int32)), (.int (1 : Int32))])
    refine own_go (fun t k => XS.icmpNo X20.here hx rfl (hb hby at_34) rfl (by decide) k) ?_
    show own_G p e below _ T20 (mkF m 37 #[.val (.int i0), .val (.int i1), .val (.int (4 : Int32)), .val (.ref a_GREATER), .val (.int ((i1 &&& (1073741823 : Int32)) + (1 : Int32))), .unset] [])
    refine own_go (fun t k => XS.iconst X20.here hx rfl (hb hby at_37) k) ?_
    show own_G p e below _ T20 (mkF m 38 #[.val (.int i0), .val (.int i1), .val (.int (4 : Int32)), .val (.ref a_GREATER), .val (.int ((i1 &&& (1073741823 : Int32)) + (1 : Int32))), .unset] [(.int (1 : Int32))])
    refine own_go (fun t k => XS.goto X20.here hx rfl (pc0 := 38) (pc' := 42) rfl (hb hby at_38) (by decide) (by decide) k) ?_
    show own_G p e below _ T20 (mkF m 42 #[.val (.int i0), .val (.int i1), .val (.int (4 : Int32)), .val (.ref a_GREATER), .val (.int ((i1 &&& (1073741823 : Int32)) + (1 : Int32))), .unset] [(.int (1 : Int32))])
    refine own_go (fun t k => XS.istore X20.here hx rfl (hb hby at_42) rfl (l' := #[.val (.int i0), .val (.int i1), .val (.int (4 : Int32)), .val (.ref a_GREATER), .val (.int ((i1 &&& (1073741823 : Int32)) + (1 : Int32))), .val (.int (1 : Int32))]) rfl k) ?_
    show own_G p e below _ T20 (mkF m 44 #[.val (.int i0), .val (.int i1), .val (.int (4 : Int32)), .val (.ref a_GREATER), .val (.int ((i1 &&& (1073741823 : Int32)) + (1 : Int32))), .val (.int (1 : Int32))] [])
    refine own_go (fun t k => XS.aloadN X20.here hx rfl (hb hby at_44) rfl rfl k) ?_
    show own_G p e below _ T20 (mkF m 45 #[.val (.int i0), .val (.int i1), .val (.int (4 : Int32)), .val (.ref a_GREATER), .val (.int ((i1 &&& (1073741823 : Int32)) + (1 : Int32))), .val (.int (1 : Int32))] [(.ref a_GREATER)])
    obtain ⟨T21, L21, v21, X21, ⟨rfl, rfl, q21⟩, st21⟩ := own_callV X20 hx hZ (y := (⟨"com/example/quern/quern/query/ComparisonOperator", "isOrdering", "()Z"⟩ : MethodName)) (z := (⟨"com/example/quern/quern/query/ComparisonOperator", "isOrdering", "()Z"⟩ : MethodName)) hown (hw _ (List.mem_of_getElem? (i := 23) rfl)) (hw _ (List.mem_of_getElem? (i := 24) rfl)) (hw _ (List.mem_of_getElem? (i := 26) rfl)) (hw _ (List.mem_of_getElem? (i := 26) rfl)) (hw _ (List.mem_of_getElem? (i := 25) rfl)) (hw _ (List.mem_of_getElem? (i := 27) rfl)) (hw _ (List.mem_of_getElem? (i := 6) rfl)) (notFace_of_selects (args := #[]) (mvT hZ (hw _ (List.mem_of_getElem? (i := 26) rfl)))) (by decide) (c_iso l Z a0 hw a_EQUAL a_LESS a_NOT_EQUAL a_GREATER a_GREATER_OR_EQUAL a_LESS_OR_EQUAL a_GREATER h0 B ) q20 E_GREATER (argsL := []) (rest := []) (g := (mkF m 45 #[.val (.int i0), .val (.int i1), .val (.int (4 : Int32)), .val (.ref a_GREATER), .val (.int ((i1 &&& (1073741823 : Int32)) + (1 : Int32))), .val (.int (1 : Int32))] [(.ref a_GREATER)])) rfl (by rw [hml]; rfl) (ps := []) (r := (some .boolean)) (by decide +kernel) rfl rfl (W := 0) (by show 2 * 0 + _ ≤ _; exact Nat.le_of_eq rfl) (hb hby at_45) (by decide) (by decide) (by decide) (by decide)
    have N21 := Fr.app N20 (Fr.nil n0)
    refine own_go st21 ?_
    show own_G p e below _ T21 (mkF m 48 #[.val (.int i0), .val (.int i1), .val (.int (4 : Int32)), .val (.ref a_GREATER), .val (.int ((i1 &&& (1073741823 : Int32)) + (1 : Int32))), .val (.int (1 : Int32))] [(.int (own_iso a_EQUAL a_LESS a_NOT_EQUAL a_GREATER a_GREATER_OR_EQUAL a_LESS_OR_EQUAL a_GREATER))])
    have r21 : (own_iso a_EQUAL a_LESS a_NOT_EQUAL a_GREATER a_GREATER_OR_EQUAL a_LESS_OR_EQUAL a_GREATER) = (1 : Int32) := by unfold own_iso; rw [if_neg (Fld.ne F_GREATER_ordinal F_EQUAL_ordinal (own_neV (by decide))), if_neg (Fld.ne F_GREATER_ordinal F_NOT_EQUAL_ordinal (own_neV (by decide)))]; rfl
    rw [r21]
    show own_G p e below _ T21 (mkF m 48 #[.val (.int i0), .val (.int i1), .val (.int (4 : Int32)), .val (.ref a_GREATER), .val (.int ((i1 &&& (1073741823 : Int32)) + (1 : Int32))), .val (.int (1 : Int32))] [(.int (1 : Int32))])
    refine own_go (fun t k => XS.iload X21.here hx rfl (hb hby at_48) rfl k) ?_
    show own_G p e below _ T21 (mkF m 50 #[.val (.int i0), .val (.int i1), .val (.int (4 : Int32)), .val (.ref a_GREATER), .val (.int ((i1 &&& (1073741823 : Int32)) + (1 : Int32))), .val (.int (1 : Int32))] [(.int (1 : Int32)), (.int (1 : Int32))])
    refine own_go (fun t k => XS.icmpNo X21.here hx rfl (hb hby at_50) rfl (by decide) k) ?_
    show own_G p e below _ T21 (mkF m 53 #[.val (.int i0), .val (.int i1), .val (.int (4 : Int32)), .val (.ref a_GREATER), .val (.int ((i1 &&& (1073741823 : Int32)) + (1 : Int32))), .val (.int (1 : Int32))] [])
    refine own_go (fun t k => XS.iconst X21.here hx rfl (hb hby at_53) k) ?_
    show own_G p e below _ T21 (mkF m 54 #[.val (.int i0), .val (.int i1), .val (.int (4 : Int32)), .val (.ref a_GREATER), .val (.int ((i1 &&& (1073741823 : Int32)) + (1 : Int32))), .val (.int (1 : Int32))] [(.int (1 : Int32))])
    refine own_go (fun t k => XS.goto X21.here hx rfl (pc0 := 54) (pc' := 58) rfl (hb hby at_54) (by decide) (by decide) k) ?_
    show own_G p e below _ T21 (mkF m 58 #[.val (.int i0), .val (.int i1), .val (.int (4 : Int32)), .val (.ref a_GREATER), .val (.int ((i1 &&& (1073741823 : Int32)) + (1 : Int32))), .val (.int (1 : Int32))] [(.int (1 : Int32))])
    exact own_retN X21 hx hlk hret (by simp) (hb hby at_58) (by decide) (by decide) ⟨rfl, N21⟩
  · rw [hk1]
    show own_G p e below _ T0 (mkF m 7 #[.val (.int i0), .val (.int i1), .unset, .unset, .unset, .unset] [(.int (5 : Int32))])
    refine own_go (fun t k => XS.istoreN X0.here hx rfl (hb hby at_7) rfl (l' := #[.val (.int i0), .val (.int i1), .val (.int (5 : Int32)), .unset, .unset, .unset]) rfl k) ?_
    show own_G p e below _ T0 (mkF m 8 #[.val (.int i0), .val (.int i1), .val (.int (5 : Int32)), .unset, .unset, .unset] [])
    refine own_go (fun t k => XS.iloadN X0.here hx rfl (hb hby at_8) rfl k) ?_
    show own_G p e below _ T0 (mkF m 9 #[.val (.int i0), .val (.int i1), .val (.int (5 : Int32)), .unset, .unset, .unset] [(.int (5 : Int32))])
    obtain ⟨T22, L22, v22, X22, ⟨rfl, rfl, q22⟩, st22⟩ := own_callS X0 hx hZ (y := (⟨"com/example/quern/quern/query/ComparisonOperatorIsOrderingPinLaw", "pick", "(I)Lcom/example/quern/quern/query/ComparisonOperator;"⟩ : MethodName)) hown (hw _ (List.mem_of_getElem? (i := 1) rfl)) (hw _ (List.mem_of_getElem? (i := 2) rfl)) (hw _ (List.mem_of_getElem? (i := 3) rfl)) (hw _ (List.mem_of_getElem? (i := 4) rfl)) (by decide) (c_pick l Z a0 hw a_EQUAL a_LESS a_NOT_EQUAL a_GREATER a_GREATER_OR_EQUAL a_LESS_OR_EQUAL (5 : Int32) h0 B ) e0 (argsL := [(.int (5 : Int32))]) (rest := []) (g := (mkF m 9 #[.val (.int i0), .val (.int i1), .val (.int (5 : Int32)), .unset, .unset, .unset] [(.int (5 : Int32))])) rfl (by rw [hml]; rfl) (ps := [.int]) (r := (some (.object "com/example/quern/quern/query/ComparisonOperator"))) (by decide +kernel) rfl rfl (W := 0) (by show 2 * 0 + _ ≤ _; exact Nat.le_of_eq rfl) (hb hby at_9) (by decide) (by decide) (by decide) (by decide)
    have N22 := Fr.app N0 (Fr.nil n0)
    refine own_go st22 ?_
    show own_G p e below _ T22 (mkF m 12 #[.val (.int i0), .val (.int i1), .val (.int (5 : Int32)), .unset, .unset, .unset] [(.ref (own_pick a_EQUAL a_LESS a_NOT_EQUAL a_GREATER a_GREATER_OR_EQUAL a_LESS_OR_EQUAL (5 : Int32)))])
    have r22 : (own_pick a_EQUAL a_LESS a_NOT_EQUAL a_GREATER a_GREATER_OR_EQUAL a_LESS_OR_EQUAL (5 : Int32)) = a_GREATER_OR_EQUAL := by unfold own_pick; rw [if_neg (show ¬ ((5 : Int32) = (0 : Int32)) by decide), if_neg (show ¬ ((5 : Int32) = (1 : Int32)) by decide), if_neg (show ¬ ((5 : Int32) = (2 : Int32)) by decide), if_neg (show ¬ ((5 : Int32) = (3 : Int32)) by decide), if_neg (show ¬ ((5 : Int32) = (4 : Int32)) by decide)]
    rw [r22]
    show own_G p e below _ T22 (mkF m 12 #[.val (.int i0), .val (.int i1), .val (.int (5 : Int32)), .unset, .unset, .unset] [(.ref a_GREATER_OR_EQUAL)])
    refine own_go (fun t k => XS.astoreN X22.here hx rfl (hb hby at_12) rfl rfl (l' := #[.val (.int i0), .val (.int i1), .val (.int (5 : Int32)), .val (.ref a_GREATER_OR_EQUAL), .unset, .unset]) rfl k) ?_
    show own_G p e below _ T22 (mkF m 13 #[.val (.int i0), .val (.int i1), .val (.int (5 : Int32)), .val (.ref a_GREATER_OR_EQUAL), .unset, .unset] [])
    refine own_go (fun t k => XS.iloadN X22.here hx rfl (hb hby at_13) rfl k) ?_
    show own_G p e below _ T22 (mkF m 14 #[.val (.int i0), .val (.int i1), .val (.int (5 : Int32)), .val (.ref a_GREATER_OR_EQUAL), .unset, .unset] [(.int i1)])
    refine own_go (X22.ldcInt hx hown (mvT hZ (hw _ (List.mem_of_getElem? (i := 8) rfl))) (g := (mkF m 14 #[.val (.int i0), .val (.int i1), .val (.int (5 : Int32)), .val (.ref a_GREATER_OR_EQUAL), .unset, .unset] [(.int i1)])) rfl (hb hby at_14)) ?_
    show own_G p e below _ T22 (mkF m 16 #[.val (.int i0), .val (.int i1), .val (.int (5 : Int32)), .val (.ref a_GREATER_OR_EQUAL), .unset, .unset] [(.int (1073741823 : Int32)), (.int i1)])
    refine own_go (fun t k => XS.iand X22.here hx rfl (hb hby at_16) rfl k) ?_
    show own_G p e below _ T22 (mkF m 17 #[.val (.int i0), .val (.int i1), .val (.int (5 : Int32)), .val (.ref a_GREATER_OR_EQUAL), .unset, .unset] [(.int (i1 &&& (1073741823 : Int32)))])
    refine own_go (fun t k => XS.iconst X22.here hx rfl (hb hby at_17) k) ?_
    show own_G p e below _ T22 (mkF m 18 #[.val (.int i0), .val (.int i1), .val (.int (5 : Int32)), .val (.ref a_GREATER_OR_EQUAL), .unset, .unset] [(.int (1 : Int32)), (.int (i1 &&& (1073741823 : Int32)))])
    refine own_go (fun t k => XS.iadd X22.here hx rfl (hb hby at_18) rfl k) ?_
    show own_G p e below _ T22 (mkF m 19 #[.val (.int i0), .val (.int i1), .val (.int (5 : Int32)), .val (.ref a_GREATER_OR_EQUAL), .unset, .unset] [(.int ((i1 &&& (1073741823 : Int32)) + (1 : Int32)))])
    refine own_go (fun t k => XS.istore X22.here hx rfl (hb hby at_19) rfl (l' := #[.val (.int i0), .val (.int i1), .val (.int (5 : Int32)), .val (.ref a_GREATER_OR_EQUAL), .val (.int ((i1 &&& (1073741823 : Int32)) + (1 : Int32))), .unset]) rfl k) ?_
    show own_G p e below _ T22 (mkF m 21 #[.val (.int i0), .val (.int i1), .val (.int (5 : Int32)), .val (.ref a_GREATER_OR_EQUAL), .val (.int ((i1 &&& (1073741823 : Int32)) + (1 : Int32))), .unset] [])
    refine own_go (fun t k => XS.aloadN X22.here hx rfl (hb hby at_21) rfl rfl k) ?_
    show own_G p e below _ T22 (mkF m 22 #[.val (.int i0), .val (.int i1), .val (.int (5 : Int32)), .val (.ref a_GREATER_OR_EQUAL), .val (.int ((i1 &&& (1073741823 : Int32)) + (1 : Int32))), .unset] [(.ref a_GREATER_OR_EQUAL)])
    refine own_go (fun t k => XS.iload X22.here hx rfl (hb hby at_22) rfl k) ?_
    show own_G p e below _ T22 (mkF m 24 #[.val (.int i0), .val (.int i1), .val (.int (5 : Int32)), .val (.ref a_GREATER_OR_EQUAL), .val (.int ((i1 &&& (1073741823 : Int32)) + (1 : Int32))), .unset] [(.int ((i1 &&& (1073741823 : Int32)) + (1 : Int32))), (.ref a_GREATER_OR_EQUAL)])
    obtain ⟨T23, L23, v23, X23, ⟨rfl, rfl, q23⟩, st23⟩ := own_callV X22 hx hZ (y := (⟨"com/example/quern/quern/query/ComparisonOperator", "holds", "(I)Z"⟩ : MethodName)) (z := (⟨"com/example/quern/quern/query/ComparisonOperator", "holds", "(I)Z"⟩ : MethodName)) hown (hw _ (List.mem_of_getElem? (i := 9) rfl)) (hw _ (List.mem_of_getElem? (i := 10) rfl)) (hw _ (List.mem_of_getElem? (i := 12) rfl)) (hw _ (List.mem_of_getElem? (i := 12) rfl)) (hw _ (List.mem_of_getElem? (i := 11) rfl)) (hw _ (List.mem_of_getElem? (i := 13) rfl)) (hw _ (List.mem_of_getElem? (i := 6) rfl)) (notFace_of_selects (args := #[]) (mvT hZ (hw _ (List.mem_of_getElem? (i := 12) rfl)))) (by decide) (c_holds5 l Z a0 hw a_GREATER_OR_EQUAL ((i1 &&& (1073741823 : Int32)) + (1 : Int32)) h0  F_GREATER_OR_EQUAL_ordinal E_GREATER_OR_EQUAL) q22 E_GREATER_OR_EQUAL (argsL := [(.int ((i1 &&& (1073741823 : Int32)) + (1 : Int32)))]) (rest := []) (g := (mkF m 24 #[.val (.int i0), .val (.int i1), .val (.int (5 : Int32)), .val (.ref a_GREATER_OR_EQUAL), .val (.int ((i1 &&& (1073741823 : Int32)) + (1 : Int32))), .unset] [(.int ((i1 &&& (1073741823 : Int32)) + (1 : Int32))), (.ref a_GREATER_OR_EQUAL)])) rfl (by rw [hml]; rfl) (ps := [.int]) (r := (some .boolean)) (by decide +kernel) rfl rfl (W := 0) (by show 2 * 0 + _ ≤ _; exact Nat.le_of_eq rfl) (hb hby at_24) (by decide) (by decide) (by decide) (by decide)
    have N23 := Fr.app N22 (Fr.nil n0)
    refine own_go st23 ?_
    show own_G p e below _ T23 (mkF m 27 #[.val (.int i0), .val (.int i1), .val (.int (5 : Int32)), .val (.ref a_GREATER_OR_EQUAL), .val (.int ((i1 &&& (1073741823 : Int32)) + (1 : Int32))), .unset] [(.int (own_holds5 a_GREATER_OR_EQUAL ((i1 &&& (1073741823 : Int32)) + (1 : Int32))))])
    have r23 : (own_holds5 a_GREATER_OR_EQUAL ((i1 &&& (1073741823 : Int32)) + (1 : Int32))) = (1 : Int32) := by unfold own_holds5; rw [if_neg ha2]; rfl
    rw [r23]
    show own_G p e below _ T23 (mkF m 27 #[.val (.int i0), .val (.int i1), .val (.int (5 : Int32)), .val (.ref a_GREATER_OR_EQUAL), .val (.int ((i1 &&& (1073741823 : Int32)) + (1 : Int32))), .unset] [(.int (1 : Int32))])
    refine own_go (fun t k => XS.aloadN X23.here hx rfl (hb hby at_27) rfl rfl k) ?_
    show own_G p e below _ T23 (mkF m 28 #[.val (.int i0), .val (.int i1), .val (.int (5 : Int32)), .val (.ref a_GREATER_OR_EQUAL), .val (.int ((i1 &&& (1073741823 : Int32)) + (1 : Int32))), .unset] [(.ref a_GREATER_OR_EQUAL), (.int (1 : Int32))])
    refine own_go (fun t k => XS.iload X23.here hx rfl (hb hby at_28) rfl k) ?_
    show own_G p e below _ T23 (mkF m 30 #[.val (.int i0), .val (.int i1), .val (.int (5 : Int32)), .val (.ref a_GREATER_OR_EQUAL), .val (.int ((i1 &&& (1073741823 : Int32)) + (1 : Int32))), .unset] [(.int ((i1 &&& (1073741823 : Int32)) + (1 : Int32))), (.ref a_GREATER_OR_EQUAL), (.int (1 : Int32))])
    refine own_go (fun t k => XS.ineg X23.here hx rfl (hb hby at_30) rfl k) ?_
    show own_G p e below _ T23 (mkF m 31 #[.val (.int i0), .val (.int i1), .val (.int (5 : Int32)), .val (.ref a_GREATER_OR_EQUAL), .val (.int ((i1 &&& (1073741823 : Int32)) + (1 : Int32))), .unset] [(.int (-((i1 &&& (1073741823 : Int32)) + (1 : Int32)))), (.ref a_GREATER_OR_EQUAL), (.int (1 : Int32))])
    obtain ⟨T24, L24, v24, X24, ⟨rfl, rfl, q24⟩, st24⟩ := own_callV X23 hx hZ (y := (⟨"com/example/quern/quern/query/ComparisonOperator", "holds", "(I)Z"⟩ : MethodName)) (z := (⟨"com/example/quern/quern/query/ComparisonOperator", "holds", "(I)Z"⟩ : MethodName)) hown (hw _ (List.mem_of_getElem? (i := 9) rfl)) (hw _ (List.mem_of_getElem? (i := 10) rfl)) (hw _ (List.mem_of_getElem? (i := 12) rfl)) (hw _ (List.mem_of_getElem? (i := 12) rfl)) (hw _ (List.mem_of_getElem? (i := 11) rfl)) (hw _ (List.mem_of_getElem? (i := 13) rfl)) (hw _ (List.mem_of_getElem? (i := 6) rfl)) (notFace_of_selects (args := #[]) (mvT hZ (hw _ (List.mem_of_getElem? (i := 12) rfl)))) (by decide) (c_holds5 l Z a0 hw a_GREATER_OR_EQUAL (-((i1 &&& (1073741823 : Int32)) + (1 : Int32))) h0  F_GREATER_OR_EQUAL_ordinal E_GREATER_OR_EQUAL) q23 E_GREATER_OR_EQUAL (argsL := [(.int (-((i1 &&& (1073741823 : Int32)) + (1 : Int32))))]) (rest := [(.int (1 : Int32))]) (g := (mkF m 31 #[.val (.int i0), .val (.int i1), .val (.int (5 : Int32)), .val (.ref a_GREATER_OR_EQUAL), .val (.int ((i1 &&& (1073741823 : Int32)) + (1 : Int32))), .unset] [(.int (-((i1 &&& (1073741823 : Int32)) + (1 : Int32)))), (.ref a_GREATER_OR_EQUAL), (.int (1 : Int32))])) rfl (by rw [hml]; rfl) (ps := [.int]) (r := (some .boolean)) (by decide +kernel) rfl rfl (W := 1) (by show 2 * 0 + _ ≤ _; exact Nat.le_of_eq rfl) (hb hby at_31) (by decide) (by decide) (by decide) (by decide)
    have N24 := Fr.app N23 (Fr.nil n0)
    refine own_go st24 ?_
    show own_G p e below _ T24 (mkF m 34 #[.val (.int i0), .val (.int i1), .val (.int (5 : Int32)), .val (.ref a_GREATER_OR_EQUAL), .val (.int ((i1 &&& (1073741823 : Int32)) + (1 : Int32))), .unset] [(.int (own_holds5 a_GREATER_OR_EQUAL (-((i1 &&& (1073741823 : Int32)) + (1 : Int32))))), (.int (1 : Int32))])
    have r24 : (own_holds5 a_GREATER_OR_EQUAL (-((i1 &&& (1073741823 : Int32)) + (1 : Int32)))) = (0 : Int32) := by unfold own_holds5; rw [if_pos hb2]; rfl
    rw [r24]
    show own_G p e below _ T24 (mkF m 34 #[.val (.int i0), .val (.int i1), .val (.int (5 : Int32)), .val (.ref a_GREATER_OR_EQUAL), .val (.int ((i1 &&& (1073741823 : Int32)) + (1 : Int32))), .unset] [(.int (0 : Int32)), (.int (1 : Int32))])
    refine own_go (fun t k => XS.icmpNo X24.here hx rfl (hb hby at_34) rfl (by decide) k) ?_
    show own_G p e below _ T24 (mkF m 37 #[.val (.int i0), .val (.int i1), .val (.int (5 : Int32)), .val (.ref a_GREATER_OR_EQUAL), .val (.int ((i1 &&& (1073741823 : Int32)) + (1 : Int32))), .unset] [])
    refine own_go (fun t k => XS.iconst X24.here hx rfl (hb hby at_37) k) ?_
    show own_G p e below _ T24 (mkF m 38 #[.val (.int i0), .val (.int i1), .val (.int (5 : Int32)), .val (.ref a_GREATER_OR_EQUAL), .val (.int ((i1 &&& (1073741823 : Int32)) + (1 : Int32))), .unset] [(.int (1 : Int32))])
    refine own_go (fun t k => XS.goto X24.here hx rfl (pc0 := 38) (pc' := 42) rfl (hb hby at_38) (by decide) (by decide) k) ?_
    show own_G p e below _ T24 (mkF m 42 #[.val (.int i0), .val (.int i1), .val (.int (5 : Int32)), .val (.ref a_GREATER_OR_EQUAL), .val (.int ((i1 &&& (1073741823 : Int32)) + (1 : Int32))), .unset] [(.int (1 : Int32))])
    refine own_go (fun t k => XS.istore X24.here hx rfl (hb hby at_42) rfl (l' := #[.val (.int i0), .val (.int i1), .val (.int (5 : Int32)), .val (.ref a_GREATER_OR_EQUAL), .val (.int ((i1 &&& (1073741823 : Int32)) + (1 : Int32))), .val (.int (1 : Int32))]) rfl k) ?_
    show own_G p e below _ T24 (mkF m 44 #[.val (.int i0), .val (.int i1), .val (.int (5 : Int32)), .val (.ref a_GREATER_OR_EQUAL), .val (.int ((i1 &&& (1073741823 : Int32)) + (1 : Int32))), .val (.int (1 : Int32))] [])
    refine own_go (fun t k => XS.aloadN X24.here hx rfl (hb hby at_44) rfl rfl k) ?_
    show own_G p e below _ T24 (mkF m 45 #[.val (.int i0), .val (.int i1), .val (.int (5 : Int32)), .val (.ref a_GREATER_OR_EQUAL), .val (.int ((i1 &&& (1073741823 : Int32)) + (1 : Int32))), .val (.int (1 : Int32))] [(.ref a_GREATER_OR_EQUAL)])
    obtain ⟨T25, L25, v25, X25, ⟨rfl, rfl, q25⟩, st25⟩ := own_callV X24 hx hZ (y := (⟨"com/example/quern/quern/query/ComparisonOperator", "isOrdering", "()Z"⟩ : MethodName)) (z := (⟨"com/example/quern/quern/query/ComparisonOperator", "isOrdering", "()Z"⟩ : MethodName)) hown (hw _ (List.mem_of_getElem? (i := 23) rfl)) (hw _ (List.mem_of_getElem? (i := 24) rfl)) (hw _ (List.mem_of_getElem? (i := 26) rfl)) (hw _ (List.mem_of_getElem? (i := 26) rfl)) (hw _ (List.mem_of_getElem? (i := 25) rfl)) (hw _ (List.mem_of_getElem? (i := 27) rfl)) (hw _ (List.mem_of_getElem? (i := 6) rfl)) (notFace_of_selects (args := #[]) (mvT hZ (hw _ (List.mem_of_getElem? (i := 26) rfl)))) (by decide) (c_iso l Z a0 hw a_EQUAL a_LESS a_NOT_EQUAL a_GREATER a_GREATER_OR_EQUAL a_LESS_OR_EQUAL a_GREATER_OR_EQUAL h0 B ) q24 E_GREATER_OR_EQUAL (argsL := []) (rest := []) (g := (mkF m 45 #[.val (.int i0), .val (.int i1), .val (.int (5 : Int32)), .val (.ref a_GREATER_OR_EQUAL), .val (.int ((i1 &&& (1073741823 : Int32)) + (1 : Int32))), .val (.int (1 : Int32))] [(.ref a_GREATER_OR_EQUAL)])) rfl (by rw [hml]; rfl) (ps := []) (r := (some .boolean)) (by decide +kernel) rfl rfl (W := 0) (by show 2 * 0 + _ ≤ _; exact Nat.le_of_eq rfl) (hb hby at_45) (by decide) (by decide) (by decide) (by decide)
    have N25 := Fr.app N24 (Fr.nil n0)
    refine own_go st25 ?_
    show own_G p e below _ T25 (mkF m 48 #[.val (.int i0), .val (.int i1), .val (.int (5 : Int32)), .val (.ref a_GREATER_OR_EQUAL), .val (.int ((i1 &&& (1073741823 : Int32)) + (1 : Int32))), .val (.int (1 : Int32))] [(.int (own_iso a_EQUAL a_LESS a_NOT_EQUAL a_GREATER a_GREATER_OR_EQUAL a_LESS_OR_EQUAL a_GREATER_OR_EQUAL))])
    have r25 : (own_iso a_EQUAL a_LESS a_NOT_EQUAL a_GREATER a_GREATER_OR_EQUAL a_LESS_OR_EQUAL a_GREATER_OR_EQUAL) = (1 : Int32) := by unfold own_iso; rw [if_neg (Fld.ne F_GREATER_OR_EQUAL_ordinal F_EQUAL_ordinal (own_neV (by decide))), if_neg (Fld.ne F_GREATER_OR_EQUAL_ordinal F_NOT_EQUAL_ordinal (own_neV (by decide)))]; rfl
    rw [r25]
    show own_G p e below _ T25 (mkF m 48 #[.val (.int i0), .val (.int i1), .val (.int (5 : Int32)), .val (.ref a_GREATER_OR_EQUAL), .val (.int ((i1 &&& (1073741823 : Int32)) + (1 : Int32))), .val (.int (1 : Int32))] [(.int (1 : Int32))])
    refine own_go (fun t k => XS.iload X25.here hx rfl (hb hby at_48) rfl k) ?_
    show own_G p e below _ T25 (mkF m 50 #[.val (.int i0), .val (.int i1), .val (.int (5 : Int32)), .val (.ref a_GREATER_OR_EQUAL), .val (.int ((i1 &&& (1073741823 : Int32)) + (1 : Int32))), .val (.int (1 : Int32))] [(.int (1 : Int32)), (.int (1 : Int32))])
    refine own_go (fun t k => XS.icmpNo X25.here hx rfl (hb hby at_50) rfl (by decide) k) ?_
    show own_G p e below _ T25 (mkF m 53 #[.val (.int i0), .val (.int i1), .val (.int (5 : Int32)), .val (.ref a_GREATER_OR_EQUAL), .val (.int ((i1 &&& (1073741823 : Int32)) + (1 : Int32))), .val (.int (1 : Int32))] [])
    refine own_go (fun t k => XS.iconst X25.here hx rfl (hb hby at_53) k) ?_
    show own_G p e below _ T25 (mkF m 54 #[.val (.int i0), .val (.int i1), .val (.int (5 : Int32)), .val (.ref a_GREATER_OR_EQUAL), .val (.int ((i1 &&& (1073741823 : Int32)) + (1 : Int32))), .val (.int (1 : Int32))] [(.int (1 : Int32))])
    refine own_go (fun t k => XS.goto X25.here hx rfl (pc0 := 54) (pc' := 58) rfl (hb hby at_54) (by decide) (by decide) k) ?_
    show own_G p e below _ T25 (mkF m 58 #[.val (.int i0), .val (.int i1), .val (.int (5 : Int32)), .val (.ref a_GREATER_OR_EQUAL), .val (.int ((i1 &&& (1073741823 : Int32)) + (1 : Int32))), .val (.int (1 : Int32))] [(.int (1 : Int32))])
    exact own_retN X25 hx hlk hret (by simp) (hb hby at_58) (by decide) (by decide) ⟨rfl, N25⟩
set_option maxRecDepth 65536 in
set_option maxHeartbeats 40000000 in
theorem comes_1 {Post : Tables → Env → Array Value → State → Outcome → State → Prop} (hpost : ∀ tb e args s v u, (limb_1_1.after args s (.returned v) u = true ∧ limb_1_2.after args s (.returned v) u = true ∧ True) → FrameEnd s (.returned v) u (Jvm.fieldLocs frame_1_writes args s ++ Jvm.arrayLocs frame_1_arrays args s ++ Jvm.staticLocs frame_1_statics s) 0 0 → Post tb e args s (.returned v) u) :
    ArmFor flags0 classFile x code maxLocals ret World_1 tables_1 room_1 Calls_1 rest_1 Pre_1 Post := by
  intro l hfl _ _ p e ha hc hk s m args below hf hA hF happ hP
  obtain ⟨hcalls, hrest, hpre⟩ := hP
  obtain ⟨-, -, -, hnamed, -, -, -, hat⟩ := (Spec.applies_iff hf).mp happ
  obtain ⟨hg, hn⟩ := and_e (Cond.before_iff.mp (show (Jvm.Cond.and given_1 narrow_1).before args s = true from hpre))
  obtain ⟨h1, hg⟩ := and_e hg
  obtain ⟨w0, w1, rfl⟩ : ∃ w0 w1 : Value, args = #[w0, w1] := by
    have hs : args.size = 2 := by simpa [Cond.value, given_1] using h1
    obtain ⟨L⟩ := args
    match L, hs with
    | [w0, w1], _ => exact ⟨w0, w1, rfl⟩
  obtain ⟨hi0, hg⟩ := and_e hg
  obtain ⟨i0, ei0⟩ := is_v hi0
  obtain rfl : w0 = (.int i0) := Option.some.inj ei0
  obtain ⟨i1, ei1⟩ := is_v hg
  obtain rfl : w1 = (.int i1) := Option.some.inj ei1
  have hw := fun d (hd : d ∈ tables_1) => atoms_spec (ws := Jvm.Cond.code x code maxLocals ret :: tables_1) hat d (List.mem_cons_of_mem _ hd)
  obtain ⟨n0, hn⟩ := and_e hn
  obtain ⟨a_EQUAL, v_EQUAL⟩ := exa_v n0
  have S_EQUAL := Sta.start v_EQUAL (Or.inr ⟨(hw _ (List.mem_of_getElem? (i := 6) rfl)), (hw _ (List.mem_of_getElem? (i := 7) rfl))⟩)
  have E_EQUAL := Exa.start v_EQUAL n0
  obtain ⟨n1, hn⟩ := and_e hn
  have F_EQUAL_ordinal := own_fld v_EQUAL n1
  obtain ⟨n2, hn⟩ := and_e hn
  obtain ⟨a_LESS, v_LESS⟩ := exa_v n2
  have S_LESS := Sta.start v_LESS (Or.inr ⟨(hw _ (List.mem_of_getElem? (i := 6) rfl)), (hw _ (List.mem_of_getElem? (i := 30) rfl))⟩)
  have E_LESS := Exa.start v_LESS n2
  obtain ⟨n3, hn⟩ := and_e hn
  have F_LESS_ordinal := own_fld v_LESS n3
  obtain ⟨n4, hn⟩ := and_e hn
  obtain ⟨a_NOT_EQUAL, v_NOT_EQUAL⟩ := exa_v n4
  have S_NOT_EQUAL := Sta.start v_NOT_EQUAL (Or.inr ⟨(hw _ (List.mem_of_getElem? (i := 6) rfl)), (hw _ (List.mem_of_getElem? (i := 32) rfl))⟩)
  have E_NOT_EQUAL := Exa.start v_NOT_EQUAL n4
  obtain ⟨n5, hn⟩ := and_e hn
  have F_NOT_EQUAL_ordinal := own_fld v_NOT_EQUAL n5
  obtain ⟨n6, hn⟩ := and_e hn
  obtain ⟨a_GREATER, v_GREATER⟩ := exa_v n6
  have S_GREATER := Sta.start v_GREATER (Or.inr ⟨(hw _ (List.mem_of_getElem? (i := 6) rfl)), (hw _ (List.mem_of_getElem? (i := 34) rfl))⟩)
  have E_GREATER := Exa.start v_GREATER n6
  obtain ⟨n7, hn⟩ := and_e hn
  have F_GREATER_ordinal := own_fld v_GREATER n7
  obtain ⟨n8, hn⟩ := and_e hn
  obtain ⟨a_GREATER_OR_EQUAL, v_GREATER_OR_EQUAL⟩ := exa_v n8
  have S_GREATER_OR_EQUAL := Sta.start v_GREATER_OR_EQUAL (Or.inr ⟨(hw _ (List.mem_of_getElem? (i := 6) rfl)), (hw _ (List.mem_of_getElem? (i := 37) rfl))⟩)
  have E_GREATER_OR_EQUAL := Exa.start v_GREATER_OR_EQUAL n8
  obtain ⟨n9, hn⟩ := and_e hn
  have F_GREATER_OR_EQUAL_ordinal := own_fld v_GREATER_OR_EQUAL n9
  obtain ⟨n10, hn⟩ := and_e hn
  obtain ⟨a_LESS_OR_EQUAL, v_LESS_OR_EQUAL⟩ := exa_v n10
  have S_LESS_OR_EQUAL := Sta.start v_LESS_OR_EQUAL (Or.inr ⟨(hw _ (List.mem_of_getElem? (i := 6) rfl)), (hw _ (List.mem_of_getElem? (i := 39) rfl))⟩)
  have E_LESS_OR_EQUAL := Exa.start v_LESS_OR_EQUAL n10
  have F_LESS_OR_EQUAL_ordinal := own_fld v_LESS_OR_EQUAL hn
  have B : own_B s s.heap a_EQUAL a_LESS a_NOT_EQUAL a_GREATER a_GREATER_OR_EQUAL a_LESS_OR_EQUAL := ⟨S_EQUAL, E_EQUAL, F_EQUAL_ordinal, S_LESS, E_LESS, F_LESS_ordinal, S_NOT_EQUAL, E_NOT_EQUAL, F_NOT_EQUAL_ordinal, S_GREATER, E_GREATER, F_GREATER_ordinal, S_GREATER_OR_EQUAL, E_GREATER_OR_EQUAL, F_GREATER_OR_EQUAL_ordinal, S_LESS_OR_EQUAL, E_LESS_OR_EQUAL, F_LESS_OR_EQUAL_ordinal⟩
  obtain ⟨n, o, h1, h2, h3, _, L, rfl, ⟨rfl, N⟩, hq⟩ := rm0 l s _ hw i0 i1 a_EQUAL a_LESS a_NOT_EQUAL a_GREATER a_GREATER_OR_EQUAL a_LESS_OR_EQUAL s.heap s.heap.size (Nat.le_refl _) B tables_1 p e ha hc hk s m _ below hf ((Spec.applies_iff_loose hf).mp happ).1 ⟨rfl, State.Warmed39.refl s, rfl⟩ trivial
  refine ⟨n, _, h1, h2, h3, hpost _ _ _ _ _ _ ⟨Jvm.Cond.after_iff.mpr rfl, Jvm.Cond.after_iff.mpr (eq_i res_at (Term.int_eval (1)) rfl), trivial⟩ ⟨hq.1, hq.2.1, (hq.2.2.sift fun y hy => Or.inr (N y hy)).mono (by decide) (by decide)⟩⟩
theorem main_1_1 : Claimed_1_1 := comes_1 fun _ _ _ _ _ _ h hF => ⟨h.1, hF⟩
theorem main_1_2 : Claimed_1_2 := comes_1 fun _ _ _ _ _ _ h hF => ⟨h.2.1, hF⟩
end Jvm.Pilot.@@N@@
namespace Jvm.Pilot.@@N@@
open Jvm Jvm.ClassFile Sem Op Lib Jvm.Free Jvm.Stand Jvm.Pilot.@@N@@.Jvm.D
/-! MADE BY PROGRAM (witnessworld.py) out of the Statement's table words and the real class files: 12 classes; the members and pool entries that the words name. The judged class is class 1, her method 2. -/
namespace start1
open Jvm.ClassFile
def u (s : String) : CpInfo := .utf8 (stringToUtf16 s)
/-- a pool by its gaps: so many unusable entries, then the entry; so many at the end -/
def gap : Nat → List CpInfo → List CpInfo
  | 0, r => r
  | n + 1, r => .unusable :: gap n r
def poolList (es : List (Nat × CpInfo)) (last : Nat) : List CpInfo := es.foldr (fun e r => gap e.1 (e.2 :: r)) (gap last [])
def pool (es : List (Nat × CpInfo)) (last : Nat) : Array CpInfo := ⟨poolList es last⟩
def fileOf (pool : Array CpInfo) (this : Nat) (attrs : Array Attribute := #[]) (ms : Array MethodInfo := #[]) (fl : Nat := 33) (sup : Nat := 0) (ifs : Array Nat := #[]) (fds : Array FieldInfo := #[]) : ClassFile where
  minorVersion := 0
  majorVersion := 65
  constantPool := pool
  accessFlags := fl
  thisClass := this
  superClass := sup
  interfaces := ifs
  fields := fds
  methods := ms
  attributes := attrs
def plain (name : String) (sup : Option ClassId) : Class where
  name := name
  kind := .ordinary
  loader := none
  accessFlags := 33
  super := sup
  interfaces := #[]
  cf := none
  fields := #[]
  methods := #[]
  instanceTypes := #[]
  staticTypes := #[]
  resolved := #[]
  callSites := []
  init := .initialized
  statics := none
  mirror := none

def pool0 : Array CpInfo := pool [(5, u "<init>"), (0, u "()V"), (1, .class_ 10), (1, u "java/lang/Object")] 113

def k0m0 : Method := { name := "<init>", desc := "()V", sig := { parameters := [], returnType := none }, accessFlags := 1, code := none }
/-- java/lang/Object -/
def k0 : Class := { plain "java/lang/Object" none with
  accessFlags := 33
  interfaces := #[]
  cf := some (fileOf pool0 8 #[] #[{ accessFlags := 1, nameIndex := 5, descriptorIndex := 6, attributes := #[] }] 33 0 #[] #[])
  fields := #[]
  methods := #[k0m0]
  instanceTypes := #[]
  staticTypes := #[]
  resolved := Array.replicate 124 none
  statics := none }

def pool1 : Array CpInfo := pool [(2, .class_ 4), (1, u "java/lang/Object"), (0, u "<init>"), (0, u "()V"), (0, .fieldref 8 9), (0, .class_ 10), (0, .nameAndType 11 12), (0, u "com/example/quern/quern/query/ComparisonOperator"), (0, u "EQUAL"), (0, u "Lcom/example/quern/quern/query/ComparisonOperator;"), (0, .fieldref 8 14), (0, .nameAndType 15 12), (0, u "NOT_EQUAL"), (0, .fieldref 8 17), (0, .nameAndType 18 12), (0, u "LESS"), (0, .fieldref 8 20), (0, .nameAndType 21 12), (0, u "LESS_OR_EQUAL"), (0, .fieldref 8 23), (0, .nameAndType 24 12), (0, u "GREATER"), (0, .fieldref 8 26), (0, .nameAndType 27 12), (0, u "GREATER_OR_EQUAL"), (0, .integer 2147483647), (0, .methodref 30 31), (0, .class_ 32), (0, .nameAndType 33 34), (0, u "com/example/quern/quern/query/ComparisonOperatorIsOrderingPinLaw"), (0, u "pick"), (0, u "(I)Lcom/example/quern/quern/query/ComparisonOperator;"), (0, .integer 1073741823), (0, .methodref 8 37), (0, .nameAndType 38 39), (0, u "holds"), (0, u "(I)Z"), (0, .methodref 8 41), (0, .nameAndType 42 43), (0, u "isOrdering"), (0, u "()Z"), (3, u "law"), (0, u "(II)Z")] 2

def k1m0 : Method := { name := "<init>", desc := "()V", sig := { parameters := [], returnType := none }, accessFlags := 1, code := none }
def k1c1 : Code := { maxStack := 2, maxLocals := 1, code := method_2_code, exceptionTable := #[], attributes := #[] }
def k1m1 : Method := { name := "pick", desc := "(I)Lcom/example/quern/quern/query/ComparisonOperator;", sig := { parameters := [.int], returnType := some (.object "com/example/quern/quern/query/ComparisonOperator") }, accessFlags := 10, code := some k1c1 }
def k1c2 : Code := { maxStack := 3, maxLocals := 6, code := code, exceptionTable := #[], attributes := #[] }
def k1m2 : Method := { name := "law", desc := "(II)Z", sig := { parameters := [.int, .int], returnType := some .boolean }, accessFlags := 9, code := some k1c2 }
/-- com/example/quern/quern/query/ComparisonOperatorIsOrderingPinLaw -/
def k1 : Class := { plain "com/example/quern/quern/query/ComparisonOperatorIsOrderingPinLaw" (some 0) with
  accessFlags := 49
  interfaces := #[]
  cf := some (fileOf pool1 30 #[] #[{ accessFlags := 1, nameIndex := 5, descriptorIndex := 6, attributes := #[] }, { accessFlags := 10, nameIndex := 33, descriptorIndex := 34, attributes := #[] }, { accessFlags := 9, nameIndex := 47, descriptorIndex := 48, attributes := #[] }] 49 2 #[] #[])
  fields := #[]
  methods := #[k1m0, k1m1, k1m2]
  instanceTypes := #[]
  staticTypes := #[]
  resolved := Array.replicate 51 none
  statics := none }

def pool2 : Array CpInfo := pool [(1, .class_ 2), (0, u "java/lang/constant/Constable"), (0, .class_ 4), (0, u "java/lang/Object")] 6

/-- java/lang/constant/Constable -/
def k2 : Class := { plain "java/lang/constant/Constable" (some 0) with
  accessFlags := 1537
  interfaces := #[]
  cf := some (fileOf pool2 1 #[] #[] 1537 3 #[] #[])
  fields := #[]
  methods := #[]
  instanceTypes := #[]
  staticTypes := #[]
  resolved := Array.replicate 11 none
  statics := none }

def pool3 : Array CpInfo := pool [(1, .class_ 2), (0, u "java/lang/Comparable"), (0, .class_ 4), (0, u "java/lang/Object")] 7

/-- java/lang/Comparable -/
def k3 : Class := { plain "java/lang/Comparable" (some 0) with
  accessFlags := 1537
  interfaces := #[]
  cf := some (fileOf pool3 1 #[] #[] 1537 3 #[] #[])
  fields := #[]
  methods := #[]
  instanceTypes := #[]
  staticTypes := #[]
  resolved := Array.replicate 12 none
  statics := none }

def pool4 : Array CpInfo := pool [(1, .class_ 2), (0, u "java/io/Serializable"), (0, .class_ 4), (0, u "java/lang/Object")] 2

/-- java/io/Serializable -/
def k4 : Class := { plain "java/io/Serializable" (some 0) with
  accessFlags := 1537
  interfaces := #[]
  cf := some (fileOf pool4 1 #[] #[] 1537 3 #[] #[])
  fields := #[]
  methods := #[]
  instanceTypes := #[]
  staticTypes := #[]
  resolved := Array.replicate 7 none
  statics := none }

def pool5 : Array CpInfo := pool [(2, .class_ 4), (1, u "java/lang/Enum"), (0, u "name"), (0, u "Ljava/lang/String;"), (0, .fieldref 2 8), (0, .nameAndType 9 10), (0, u "ordinal"), (0, u "I"), (1, .class_ 14), (1, u "java/lang/Object"), (4, u "hash"), (86, .class_ 108), (1, u "java/lang/Enum$EnumDesc"), (2, .class_ 112), (0, u "java/lang/constant/Constable"), (0, .class_ 114), (0, u "java/lang/Comparable"), (0, .class_ 116), (0, u "java/io/Serializable"), (9, u "()I")] 77

def k5c0 : Code := { maxStack := 1, maxLocals := 1, code := jdk_37_method_2_code, exceptionTable := #[], attributes := #[] }
def k5m0 : Method := { name := "ordinal", desc := "()I", sig := { parameters := [], returnType := some .int }, accessFlags := 17, code := some k5c0 }
/-- java/lang/Enum -/
def k5 : Class := { plain "java/lang/Enum" (some 0) with
  accessFlags := 1057
  interfaces := #[2, 3, 4]
  cf := some (fileOf pool5 2 #[.nestMembers #[106]] #[{ accessFlags := 17, nameIndex := 9, descriptorIndex := 126, attributes := #[] }] 1057 12 #[111, 113, 115] #[{ accessFlags := 18, nameIndex := 5, descriptorIndex := 6, attributes := #[] }, { accessFlags := 18, nameIndex := 9, descriptorIndex := 10, attributes := #[] }, { accessFlags := 2, nameIndex := 19, descriptorIndex := 10, attributes := #[] }])
  fields := #[{ name := "name", type := (.object "java/lang/String"), accessFlags := 18, slot := 0, constantValue := 0 }, { name := "ordinal", type := .int, accessFlags := 18, slot := 1, constantValue := 0 }, { name := "hash", type := .int, accessFlags := 2, slot := 2, constantValue := 0 }]
  methods := #[k5m0]
  instanceTypes := #[(.object "java/lang/String"), .int, .int]
  staticTypes := #[]
  resolved := Array.replicate 204 none
  statics := none }

def pool6 : Array CpInfo := pool [(1, .class_ 2), (0, u "com/example/quern/quern/query/ComparisonOperator"), (0, .fieldref 1 4), (0, .nameAndType 5 6), (0, u "EQUAL"), (0, u "Lcom/example/quern/quern/query/ComparisonOperator;"), (0, .fieldref 1 8), (0, .nameAndType 9 6), (0, u "NOT_EQUAL"), (2, u "LESS"), (2, u "LESS_OR_EQUAL"), (2, u "GREATER"), (2, u "GREATER_OR_EQUAL"), (2, u "$VALUES"), (0, u "[Lcom/example/quern/quern/query/ComparisonOperator;"), (6, .class_ 34), (1, u "java/lang/Enum"), (8, u "symbol"), (0, u "Ljava/lang/String;"), (0, .methodref 1 46), (0, .nameAndType 47 48), (0, u "ordinal"), (0, u "()I"), (38, u "isOrdering"), (0, u "()Z"), (1, u "holds"), (0, u "(I)Z")] 5

def k6c0 : Code := { maxStack := 2, maxLocals := 1, code := prog_69_method_5_code, exceptionTable := #[], attributes := #[] }
def k6m0 : Method := { name := "isOrdering", desc := "()Z", sig := { parameters := [], returnType := some .boolean }, accessFlags := 1, code := some k6c0 }
def k6c1 : Code := { maxStack := 4, maxLocals := 2, code := prog_69_method_6_code, exceptionTable := #[], attributes := #[] }
def k6m1 : Method := { name := "holds", desc := "(I)Z", sig := { parameters := [.int], returnType := some .boolean }, accessFlags := 0, code := some k6c1 }
/-- com/example/quern/quern/query/ComparisonOperator -/
def k6 : Class := { plain "com/example/quern/quern/query/ComparisonOperator" (some 5) with
  accessFlags := 16433
  interfaces := #[]
  cf := some (fileOf pool6 1 #[] #[{ accessFlags := 1, nameIndex := 87, descriptorIndex := 88, attributes := #[] }, { accessFlags := 0, nameIndex := 90, descriptorIndex := 91, attributes := #[] }] 16433 32 #[] #[{ accessFlags := 16409, nameIndex := 5, descriptorIndex := 6, attributes := #[] }, { accessFlags := 16409, nameIndex := 9, descriptorIndex := 6, attributes := #[] }, { accessFlags := 16409, nameIndex := 12, descriptorIndex := 6, attributes := #[] }, { accessFlags := 16409, nameIndex := 15, descriptorIndex := 6, attributes := #[] }, { accessFlags := 16409, nameIndex := 18, descriptorIndex := 6, attributes := #[] }, { accessFlags := 16409, nameIndex := 21, descriptorIndex := 6, attributes := #[] }, { accessFlags := 18, nameIndex := 43, descriptorIndex := 44, attributes := #[] }, { accessFlags := 4122, nameIndex := 24, descriptorIndex := 25, attributes := #[] }])
  fields := #[{ name := "EQUAL", type := (.object "com/example/quern/quern/query/ComparisonOperator"), accessFlags := 16409, slot := 0, constantValue := 0 }, { name := "NOT_EQUAL", type := (.object "com/example/quern/quern/query/ComparisonOperator"), accessFlags := 16409, slot := 1, constantValue := 0 }, { name := "LESS", type := (.object "com/example/quern/quern/query/ComparisonOperator"), accessFlags := 16409, slot := 2, constantValue := 0 }, { name := "LESS_OR_EQUAL", type := (.object "com/example/quern/quern/query/ComparisonOperator"), accessFlags := 16409, slot := 3, constantValue := 0 }, { name := "GREATER", type := (.object "com/example/quern/quern/query/ComparisonOperator"), accessFlags := 16409, slot := 4, constantValue := 0 }, { name := "GREATER_OR_EQUAL", type := (.object "com/example/quern/quern/query/ComparisonOperator"), accessFlags := 16409, slot := 5, constantValue := 0 }, { name := "symbol", type := (.object "java/lang/String"), accessFlags := 18, slot := 3, constantValue := 0 }, { name := "$VALUES", type := (.array (.object "com/example/quern/quern/query/ComparisonOperator")), accessFlags := 4122, slot := 6, constantValue := 0 }]
  methods := #[k6m0, k6m1]
  instanceTypes := #[(.object "java/lang/String"), .int, .int, (.object "java/lang/String")]
  staticTypes := #[(.object "com/example/quern/quern/query/ComparisonOperator"), (.object "com/example/quern/quern/query/ComparisonOperator"), (.object "com/example/quern/quern/query/ComparisonOperator"), (.object "com/example/quern/quern/query/ComparisonOperator"), (.object "com/example/quern/quern/query/ComparisonOperator"), (.object "com/example/quern/quern/query/ComparisonOperator"), (.array (.object "com/example/quern/quern/query/ComparisonOperator"))]
  resolved := Array.replicate 97 none
  statics := some 0 }

def pool7 : Array CpInfo := pool [(1, u "java/lang/Cloneable"), (0, .class_ 1), (0, u "java/lang/Object"), (0, .class_ 3)] 3

/-- java/lang/Cloneable -/
def k7 : Class := { plain "java/lang/Cloneable" (some 0) with
  accessFlags := 1537
  interfaces := #[]
  cf := some (fileOf pool7 2 #[] #[] 1537 4 #[] #[])
  fields := #[]
  methods := #[]
  instanceTypes := #[]
  staticTypes := #[]
  resolved := Array.replicate 8 none
  statics := none }

/-- the primitive byte -/
def k8 : Class := { plain "byte" none with kind := .primitive 'B', accessFlags := 0x411 }
/-- [B -/
def k9 : Class := { plain "[B" (some 0) with kind := .array 8 .byte, interfaces := #[7, 4], accessFlags := 1041 }

/-- the primitive int -/
def k10 : Class := { plain "int" none with kind := .primitive 'I', accessFlags := 0x411 }
/-- [I -/
def k11 : Class := { plain "[I" (some 0) with kind := .array 10 .int, interfaces := #[7, 4], accessFlags := 1041 }

def heap : Heap := #[{ cls := 6, slots := #[.ref 1, .ref 3, .ref 2, .ref 6, .ref 4, .ref 5, .null], vm := .statics 6 },
  { cls := 6, slots := #[.null, .int 0, .int 0, .null], vm := .none },
  { cls := 6, slots := #[.null, .int 2, .int 0, .null], vm := .none },
  { cls := 6, slots := #[.null, .int 1, .int 0, .null], vm := .none },
  { cls := 6, slots := #[.null, .int 4, .int 0, .null], vm := .none },
  { cls := 6, slots := #[.null, .int 5, .int 0, .null], vm := .none },
  { cls := 6, slots := #[.null, .int 3, .int 0, .null], vm := .none }]
def classes : Array Class := #[k0, k1, k2, k3, k4, k5, k6, k7, k8, k9, k10, k11]
def interned : List (Array UInt16 × Addr) := []
def slotsUsed : Nat := 31
def theMethod : MethodId := ⟨1, 2⟩
def args0 : Array Value := #[.int 5, .int 1]
def aboutOver (below : List Frame) : State where
  vm := { classes := classes, interned := interned.toArray }
  heap := heap
  slotsUsed := slotsUsed
  threads := #[{ frames := .invoking theMethod args0 :: below }]
def below0 : List Frame := [.native { method := ⟨0, 0⟩, args := #[] }]
def about1 : State := aboutOver below0
def p0 : Program := .bare "" "" ""
def e0 : Env := launch0.env 0 0 0
theorem w_frames : about1.frames = Frame.invoking theMethod args0 :: below0 := rfl
set_option maxRecDepth 65536 in
theorem w_args : argsFit about1.vm theMethod args0 = true := by decide +kernel
set_option maxRecDepth 65536 in
theorem w_heap : heapFits about1 = true := by decide +kernel
set_option maxRecDepth 65536 in
theorem w_runnable : about1.curStatus? = some .runnable := by decide +kernel
set_option maxRecDepth 65536 in
theorem w_alone : about1.alone = true := by decide +kernel
set_option maxRecDepth 65536 in
theorem w_named : about1.methodNamed? x = some theMethod := by decide +kernel
set_option maxRecDepth 65536 in
theorem w_hears : about1.hears theMethod below0 = true := by decide +kernel
set_option maxRecDepth 65536 in
theorem w_ripe : about1.ripe theMethod args0 below0 = true := by decide +kernel
theorem w_running : about1.status = .running := rfl
set_option maxRecDepth 65536 in
theorem w_room : about1.hasRoom e0.platform room_1 = true :=
  launch0.hasRoom_least _ room_1 (by decide +kernel) (by decide +kernel) (by decide +kernel) (by decide +kernel) (by decide +kernel) (by decide +kernel)
theorem allAtoms_all (ts : List Jvm.Cond) (a : Array Jvm.Value) (st : Jvm.State) : (allAtoms ts).before a st = ts.all (fun c => c.before a st) := by
  induction ts with
  | nil => rfl
  | cons c t ih =>
    show (Jvm.Cond.and c (allAtoms t)).before a st = _
    rw [Jvm.Cond.before_and, ih, List.all_cons]
def words1 : List Jvm.Cond := Jvm.Cond.code x code maxLocals ret :: tables_1
/-- a 'code' word, met by the world's own term for the bytes: nothing is compared byte by byte -/
theorem code_word {y : MethodName} {bytes : ByteArray} {mx : Nat} {rt : Option FieldType} {a : Array Value} {s : State} {m : MethodId} {meth : Method} {c : Code} (h1 : s.methodNamed? y = some m) (h2 : s.vm.method? m = some meth) (h3 : meth.code = some c) (h4 : c.code = bytes)
    (h5 : (c.maxLocals == mx && c.exceptionTable.isEmpty && decide (c.maxStack ≤ mostOperands) && decide (meth.sig.returnType = rt) && !meth.locks && decide (parseMethodDescriptor y.desc = some meth.sig)) = true) : (Jvm.Cond.code y bytes mx rt).before a s = true := by
  simp only [Bool.and_eq_true, beq_iff_eq, Bool.not_eq_true', decide_eq_true_eq] at h5
  obtain ⟨⟨⟨⟨⟨g1, g2⟩, g3⟩, g4⟩, g5⟩, g6⟩ := h5
  simp [Cond.before, Cond.holds, Cond.value, h1, h2, h3, h4, g1, g2, g3, g4, g5, g6]
def isCode : Jvm.Cond → Bool
  | .code _ _ _ _ => true
  | _ => false
theorem all_split {L : List Jvm.Cond} {P : Jvm.Cond → Bool} (h1 : L.all (fun c => isCode c || P c) = true) (h2 : ∀ c ∈ L.filter isCode, P c = true) : L.all P = true := by
  refine List.all_eq_true.mpr fun c hc => ?_
  have h := List.all_eq_true.mp h1 c hc
  rcases Bool.eq_false_or_eq_true (isCode c) with hi | hi
  · exact h2 c (List.mem_filter.mpr ⟨hc, hi⟩)
  · simpa [hi] using h
set_option maxRecDepth 65536 in
theorem w_c0 : (Jvm.Cond.code x code maxLocals ret).before args0 about1 = true := code_word (m := ⟨1, 2⟩) (meth := k1m2) (c := k1c2) (by decide +kernel) rfl rfl rfl (by decide +kernel)
set_option maxRecDepth 65536 in
theorem w_c1 : (Jvm.Cond.code ({ cls := "com/example/quern/quern/query/ComparisonOperatorIsOrderingPinLaw", name := "pick", desc := "(I)Lcom/example/quern/quern/query/ComparisonOperator;" } : Jvm.MethodName) method_2_code (1 : Nat) (Option.some (Jvm.ClassFile.FieldType.object "com/example/quern/quern/query/ComparisonOperator"))).before args0 about1 = true := code_word (m := ⟨1, 1⟩) (meth := k1m1) (c := k1c1) (by decide +kernel) rfl rfl rfl (by decide +kernel)
set_option maxRecDepth 65536 in
theorem w_c2 : (Jvm.Cond.code ({ cls := "com/example/quern/quern/query/ComparisonOperator", name := "holds", desc := "(I)Z" } : Jvm.MethodName) prog_69_method_6_code (2 : Nat) (Option.some Jvm.ClassFile.FieldType.boolean)).before args0 about1 = true := code_word (m := ⟨6, 1⟩) (meth := k6m1) (c := k6c1) (by decide +kernel) rfl rfl rfl (by decide +kernel)
set_option maxRecDepth 65536 in
theorem w_c3 : (Jvm.Cond.code ({ cls := "java/lang/Enum", name := "ordinal", desc := "()I" } : Jvm.MethodName) jdk_37_method_2_code (1 : Nat) (Option.some Jvm.ClassFile.FieldType.int)).before args0 about1 = true := code_word (m := ⟨5, 0⟩) (meth := k5m0) (c := k5c0) (by decide +kernel) rfl rfl rfl (by decide +kernel)
set_option maxRecDepth 65536 in
theorem w_c4 : (Jvm.Cond.code ({ cls := "com/example/quern/quern/query/ComparisonOperator", name := "isOrdering", desc := "()Z" } : Jvm.MethodName) prog_69_method_5_code (1 : Nat) (Option.some Jvm.ClassFile.FieldType.boolean)).before args0 about1 = true := code_word (m := ⟨6, 0⟩) (meth := k6m0) (c := k6c0) (by decide +kernel) rfl rfl rfl (by decide +kernel)
def codes1 : List Jvm.Cond := [Jvm.Cond.code x code maxLocals ret, Jvm.Cond.code ({ cls := "com/example/quern/quern/query/ComparisonOperatorIsOrderingPinLaw", name := "pick", desc := "(I)Lcom/example/quern/quern/query/ComparisonOperator;" } : Jvm.MethodName) method_2_code (1 : Nat) (Option.some (Jvm.ClassFile.FieldType.object "com/example/quern/quern/query/ComparisonOperator")), Jvm.Cond.code ({ cls := "com/example/quern/quern/query/ComparisonOperator", name := "holds", desc := "(I)Z" } : Jvm.MethodName) prog_69_method_6_code (2 : Nat) (Option.some Jvm.ClassFile.FieldType.boolean), Jvm.Cond.code ({ cls := "java/lang/Enum", name := "ordinal", desc := "()I" } : Jvm.MethodName) jdk_37_method_2_code (1 : Nat) (Option.some Jvm.ClassFile.FieldType.int), Jvm.Cond.code ({ cls := "com/example/quern/quern/query/ComparisonOperator", name := "isOrdering", desc := "()Z" } : Jvm.MethodName) prog_69_method_5_code (1 : Nat) (Option.some Jvm.ClassFile.FieldType.boolean)]
set_option maxRecDepth 65536 in
theorem codes_eq : words1.filter isCode = codes1 := rfl
theorem w_codes : ∀ c ∈ words1.filter isCode, c.before args0 about1 = true := by
  rw [codes_eq]
  intro c hc
  simp only [codes1, List.mem_cons, List.not_mem_nil, or_false] at hc
  rcases hc with rfl | rfl | rfl | rfl | rfl
  · exact w_c0
  · exact w_c1
  · exact w_c2
  · exact w_c3
  · exact w_c4
set_option maxRecDepth 65536 in
theorem w_t1 : (words1.take 24).all (fun c => isCode c || c.before args0 about1) = true := by decide +kernel
set_option maxRecDepth 65536 in
theorem w_t2 : (words1.drop 24).all (fun c => isCode c || c.before args0 about1) = true := by decide +kernel
theorem w_tables : (allAtoms (Jvm.Cond.code x code maxLocals ret :: tables_1)).before args0 about1 = true := by
  rw [allAtoms_all]
  show words1.all (fun c => c.before args0 about1) = true
  refine all_split ?_ w_codes
  rw [← List.take_append_drop 24 words1, List.all_append, w_t1, w_t2]
  rfl
set_option maxRecDepth 65536 in
theorem w_case : (Jvm.Cond.and given_1 narrow_1).before args0 about1 = true := by decide +kernel
theorem w_applies : (headSpec (Jvm.Cond.code x code maxLocals ret :: tables_1) room_1).applies x e0.platform about1 = true :=
  (Spec.applies_iff w_frames).mpr ⟨w_running, w_runnable, w_alone, w_named, w_hears, w_ripe, w_room, w_tables⟩
theorem atStart : AtStart classFile x code maxLocals ret World_1 tables_1 room_1 Calls_1 rest_1 Pre_1 launch0 p0 e0 about1 theMethod args0 below0 :=
  ⟨lists_1, trivial, launch0.admits_env _ _ _, launch0.least_env, fairChoices_fair.cas, fairChoices_fair.clock, w_frames, w_args, w_heap, w_applies, trivial, trivial, w_case⟩
end start1
theorem witness_1 : WitnessClaimed_1 := ⟨start1.p0, start1.e0, start1.about1, start1.theMethod, start1.args0, start1.below0, start1.atStart⟩
end Jvm.Pilot.@@N@@
