import JvmDerived
import JvmDerived.Pilot.@@N@@Statement
import JvmDerived.Pilot.@@N@@Code
set_option linter.unusedVariables false
set_option linter.unusedSimpArgs false
@@BLOCK:NumsL.lean.txt@@
namespace Jvm.Pilot.@@N@@
open Jvm Jvm.ClassFile Sem Op Lib Jvm.Free Jvm.Stand Jvm.LawKit Jvm.RoadKit Bundle Jvm.Pilot.@@N@@.Jvm.D
section Own
variable {p : Program} {l : Launch} {e : Env} {R : Room} {s : State} {m : MethodId} {args : Array Value} {below : List Frame} {meth : Method} {c : Code} {T : State} {locs : List Loc} {cells slots : Nat} {Z : State} {a0 : Array Value} {h : Heap}
/-- from here the walk comes to an end that P holds of -/
def own_G (p : Program) (e : Env) (below : List Frame) (P : State → Outcome → Prop) (T : State) (g : JFrame) : Prop := ∃ t o, Steps p.tables e below (T.setTop g) t ∧ P t o
def own_P (below : List Frame) (s : State) (rm : Room) (Q : Option Value → Heap → List Loc → Prop) (t : State) (o : Outcome) : Prop := t.status = .running ∧ Ended t below o ∧ ∃ v L, o = .returned v ∧ Q v t.heap L ∧ FrameEnd s o t L rm.cells rm.slots
/-- a body's contract: over these arguments and this heap it returns, and Q holds of what it returns, the heap and the places written -/
def own_M (l : Launch) (Z : State) (y : MethodName) (code : ByteArray) (maxL : Nat) (ret : Option FieldType) (rm : Room) (as : Array Value) (h : Heap) (Q : Option Value → Heap → List Loc → Prop) : Prop :=
  ∀ ws : List Jvm.Cond, MetFree l y (head1 (Jvm.Cond.code y code maxL ret :: ws) rm) (fun a U => a = as ∧ Z.Warmed39 U.vm ∧ U.heap = h) (fun _ _ _ _ _ => True) (fun _ U o U' => ∃ v L, o = .returned v ∧ Q v U'.heap L ∧ FrameEnd U o U' L rm.cells rm.slots)
theorem own_go {P : State → Outcome → Prop} {T' : State} {g g' : JFrame} (st : ∀ t, Steps p.tables e below (T'.setTop g') t → Steps p.tables e below (T.setTop g) t) (k : own_G p e below P T' g') : own_G p e below P T g := by
  obtain ⟨t, o, h1, h2⟩ := k
  exact ⟨t, o, st t h1, h2⟩
theorem own_body {y : MethodName} {code : ByteArray} {maxL : Nat} {ret : Option FieldType} {rm : Room} {as : Array Value} {Q : Option Value → Heap → List Loc → Prop} (hn : plainFor y = true)
    (body : ∀ (p : Program) (e : Env) (s : State) (m : MethodId) (below : List Frame) (meth : Method) (c : Code) (T : State), p.tables.exec = Jvm.exec → c.code = code → c.maxLocals = maxL → meth.locks = false → s.vm.findClass y.cls = some m.cls → meth.sig.returnType = ret → meth.name = y.name → Z.Warmed39 s.vm → Stand p l e rm s m as below meth c T [] 0 0 → T.heap = h → own_G p e below (own_P below s rm Q) T (entryFrame m as maxL)) :
    own_M l Z y code maxL ret rm as h Q := by
  intro ws
  refine MetFree.of_bodySF hn hisR ?_
  intro p e s m args below meth c s₁ Bd hml0 hP hK
  obtain ⟨rfl, hZ, hh⟩ := hP
  obtain ⟨t, o, h1, h2, h3, h4⟩ := body p e s m below meth c s₁ Bd.exec Bd.bytes hml0 Bd.notSynchronized (findClass_of_methodNamed Bd.named) Bd.returns (name_of_methodNamed Bd.named Bd.method).1 hZ (Stand.of_body Bd) (by rw [← hh, Bd.state]; rfl)
  exact ⟨t, o, h1, h2, h3, h4⟩
theorem own_retI {rm : Room} {Q : Option Value → Heap → List Loc → Prop} (X : Stand p l e R s m args below meth c T locs cells slots) (hx : p.tables.exec = Jvm.exec) (hlk : meth.locks = false) (hret : meth.sig.returnType = some .int) {pc : Nat} {Ls : Array Slot} {z : Int32} {rest : List Value} (hd : decode c.code pc = .ok (.ireturn, 1)) (hc : cells ≤ rm.cells) (hs : slots ≤ rm.slots) (hQ : Q (some (.int z)) T.heap locs) :
    own_G p e below (own_P below s rm Q) T (mkF m pc Ls (.int z :: rest)) := by
  obtain ⟨fs, hr, hrun, hended, hW, hsame⟩ := X.leave (v := some (.int z)) (fun h => by rw [hret] at h; cases h) hlk
  exact ⟨_, _, retOut X hx hret rfl (Or.inl ⟨rfl, Or.inl rfl, _, rfl⟩) hd hr, hrun, hended, _, _, rfl, hQ, ⟨_, rfl⟩, hW, hsame.mono hc hs⟩
theorem own_retN {rm : Room} {Q : Option Value → Heap → List Loc → Prop} (X : Stand p l e R s m args below meth c T locs cells slots) (hx : p.tables.exec = Jvm.exec) (hlk : meth.locks = false) {t : FieldType} (hret : meth.sig.returnType = some t) (ht : t = .boolean ∨ t = .byte ∨ t = .char ∨ t = .short) {pc : Nat} {Ls : Array Slot} {z : Int32} {rest : List Value} (hd : decode c.code pc = .ok (.ireturn, 1)) (hc : cells ≤ rm.cells) (hs : slots ≤ rm.slots) (hQ : Q (some (.int (nar t z))) T.heap locs) :
    own_G p e below (own_P below s rm Q) T (mkF m pc Ls (.int z :: rest)) := by
  obtain ⟨fs, hr, hrun, hended, hW, hsame⟩ := X.leave (v := some (.int (nar t z))) (fun h => by rw [hret] at h; cases h) hlk
  exact ⟨_, _, retN X hx hret ht hd hr, hrun, hended, _, _, rfl, hQ, ⟨_, rfl⟩, hW, hsame.mono hc hs⟩
theorem own_narrow {t : FieldType} {w : Value} (hw : w.isRef = true) : narrow t w = w := by
  rcases ref_cases hw with rfl | ⟨a, rfl⟩ <;> cases t <;> rfl
theorem own_retA {rm : Room} {Q : Option Value → Heap → List Loc → Prop} (X : Stand p l e R s m args below meth c T locs cells slots) (hx : p.tables.exec = Jvm.exec) (hlk : meth.locks = false) {t : FieldType} (hret : meth.sig.returnType = some t) (ht : t.isReference = true) {pc : Nat} {Ls : Array Slot} {w : Value} {rest : List Value} (hw : w.isRef = true) (hd : decode c.code pc = .ok (.areturn, 1)) (hc : cells ≤ rm.cells) (hs : slots ≤ rm.slots) (hQ : Q (some w) T.heap locs) :
    own_G p e below (own_P below s rm Q) T (mkF m pc Ls (w :: rest)) := by
  obtain ⟨fs, hr, hrun, hended, hW, hsame⟩ := X.leave (v := some w) (fun h => by rw [hret] at h; cases h) hlk
  exact ⟨_, _, retOut X hx hret (own_narrow hw) (Or.inr (Or.inr (Or.inr (Or.inr ⟨rfl, ht, hw⟩)))) hd hr, hrun, hended, _, _, rfl, hQ, ⟨_, rfl⟩, hW, hsame.mono hc hs⟩
theorem own_ret0 {rm : Room} {Q : Option Value → Heap → List Loc → Prop} (X : Stand p l e R s m args below meth c T locs cells slots) (hx : p.tables.exec = Jvm.exec) (hlk : meth.locks = false) (hret : meth.sig.returnType = none) {pc : Nat} {Ls : Array Slot} (hd : decode c.code pc = .ok (.return_, 1)) (hc : cells ≤ rm.cells) (hs : slots ≤ rm.slots) (hQ : Q none T.heap locs) :
    own_G p e below (own_P below s rm Q) T (mkF m pc Ls []) := by
  obtain ⟨fs, hr, hrun, hended, hW, hsame⟩ := X.leave (v := none) (fun _ => rfl) hlk
  exact ⟨_, _, X.returnOut hx hret hd hr, hrun, hended, _, _, rfl, hQ, ⟨_, rfl⟩, hW, hsame.mono hc hs⟩
theorem own_callS (X : Stand p l e R s m args below meth c T locs cells slots) (hx : p.tables.exec = Jvm.exec) (hZ : Z.Warmed39 s.vm) {own : String} {index : Nat} {y : MethodName} {bytes : ByteArray} {maxL : Nat} {ret : Option FieldType} (hown : s.vm.findClass own = some m.cls)
    (w1 : (Jvm.Cond.methodLink own index y).before a0 Z = true) (w2 : (Jvm.Cond.static y).before a0 Z = true) (w3 : (Jvm.Cond.initialized y.cls).before a0 Z = true) (w4 : (Jvm.Cond.code y bytes maxL ret).before a0 Z = true) (hy : y.cls ≠ "java/lang/invoke/MethodHandle" ∧ y.cls ≠ "java/lang/invoke/VarHandle")
    {rm : Room} {argsL rest : List Value} {Q : Option Value → Heap → List Loc → Prop} (hM : own_M l Z y bytes maxL ret rm argsL.toArray h Q) (eT : T.heap = h) {g : JFrame} (hg : g.method = m) (hsize : g.locals.size = c.maxLocals) {ps : List FieldType} {r : Option FieldType} (hpd : parseMethodDescriptor y.desc = some ⟨ps, r⟩) (hpl : argsL.length = ps.length)
    (hstack : g.stack = argsL.reverse ++ rest) {W : Nat} (hW : 2 * g.monitorRoom + (rest.map fun v => v.category).sum ≤ W) (hdg : decode c.code g.pc = .ok (.invokestatic index, 3)) (hf : rm.frames + 1 ≤ R.frames) (hl : W + (maxL + 11) + rm.locals ≤ R.locals) (hc : cells + rm.cells ≤ R.cells) (hs : slots + rm.slots ≤ R.slots) :
    ∃ (T' : State) (L : List Loc) (v : Option Value), Stand p l e R s m args below meth c T' (locs ++ L) (cells + rm.cells) (slots + rm.slots) ∧ Q v T'.heap L ∧ ∀ t, Steps p.tables e below (T'.setTop { g with pc := g.pc + 3, stack := v.toList ++ rest }) t → Steps p.tables e below (T.setTop g) t := by
  obtain ⟨v, vm₁, ⟨T', L', k', n'⟩, -, X', ⟨L, hQ, e1, e2, e3⟩, st⟩ := Jvm.LawKit.callS X hx (y := y) hown (mvT hZ w1) (mvT hZ w2) (mvT hZ w3) (mvT hZ w4) hy (backOf (W := W) (hM []) hZ w4 w3 hf hl) hg hsize (argsL := argsL) (rest := rest) (lenOf hpd hpl) hstack hW hdg (fun _ _ => ⟨rfl, eT, hc, hs⟩)
  dsimp only [Pt.U, Pt.locs, Pt.cells, Pt.slots] at X' e1 e2 e3 st hQ
  subst e1 e2 e3
  exact ⟨T', L, v, X', hQ, st⟩
theorem own_callV (X : Stand p l e R s m args below meth c T locs cells slots) (hx : p.tables.exec = Jvm.exec) (hZ : Z.Warmed39 s.vm) {own C : String} {index : Nat} {y z : MethodName} {bytes : ByteArray} {maxL : Nat} {ret : Option FieldType} (hown : s.vm.findClass own = some m.cls)
    (w1 : (Jvm.Cond.methodLink own index y).before a0 Z = true) (w2 : (Jvm.Cond.declares y).before a0 Z = true) (w3 : (Jvm.Cond.selects y.cls y z).before a0 Z = true) (w3' : (Jvm.Cond.selects C y z).before a0 Z = true) (w4 : (Jvm.Cond.instanceMethod z).before a0 Z = true) (w5 : (Jvm.Cond.code z bytes maxL ret).before a0 Z = true) (w6 : (Jvm.Cond.initialized z.cls).before a0 Z = true) (hnf : NotFace s y)
    (hy : y.cls ≠ "java/lang/invoke/MethodHandle" ∧ y.cls ≠ "java/lang/invoke/VarHandle")
    {rm : Room} {a : Addr} {argsL rest : List Value} {Q : Option Value → Heap → List Loc → Prop} (hM : own_M l Z z bytes maxL ret rm (.ref a :: argsL).toArray h Q) (eT : T.heap = h) (E : Exa Z h a C) {g : JFrame} (hg : g.method = m) (hsize : g.locals.size = c.maxLocals) {ps : List FieldType} {r : Option FieldType} (hpd : parseMethodDescriptor y.desc = some ⟨ps, r⟩) (hpl : argsL.length = ps.length)
    (hstack : g.stack = argsL.reverse ++ .ref a :: rest) {W : Nat} (hW : 2 * g.monitorRoom + (rest.map fun v => v.category).sum ≤ W) (hdg : decode c.code g.pc = .ok (.invokevirtual index, 3)) (hf : rm.frames + 1 ≤ R.frames) (hl : W + (maxL + 11) + rm.locals ≤ R.locals) (hc : cells + rm.cells ≤ R.cells) (hs : slots + rm.slots ≤ R.slots) :
    ∃ (T' : State) (L : List Loc) (v : Option Value), Stand p l e R s m args below meth c T' (locs ++ L) (cells + rm.cells) (slots + rm.slots) ∧ Q v T'.heap L ∧ ∀ t, Steps p.tables e below (T'.setTop { g with pc := g.pc + 3, stack := v.toList ++ rest }) t → Steps p.tables e below (T.setTop g) t := by
  obtain ⟨cq, kq, qa, qb, qc⟩ := isOf hZ eT E
  obtain ⟨v, vm₁, ⟨T', L', k', n'⟩, -, X', ⟨L, hQ, e1, e2, e3⟩, st⟩ := X.virtualBack hx (y := y) (z := z) hown (mvT hZ w1) (mvT hZ w2) hnf (mvT hZ w3') (mvT hZ w4) hy (backOf (W := W) (hM []) hZ w5 w6 hf hl) qa qc hg hsize (Steps.refl _) (argsL := argsL) (rest := rest) (lenOf hpd hpl) hstack hW hdg (fun _ _ => ⟨rfl, eT, hc, hs⟩)
  dsimp only [Pt.U, Pt.locs, Pt.cells, Pt.slots] at X' e1 e2 e3 st hQ
  subst e1 e2 e3
  exact ⟨T', L, v, X', hQ, fun t k => st.trans k⟩
theorem own_callU (X : Stand p l e R s m args below meth c T locs cells slots) (hx : p.tables.exec = Jvm.exec) (hZ : Z.Warmed39 s.vm) {own C owner : String} {index : Nat} {y z : MethodName} {bytes : ByteArray} {maxL : Nat} {ret : Option FieldType} (hown : s.vm.findClass own = some m.cls)
    (w1 : (Jvm.Cond.methodLink own index y).before a0 Z = true) (w2 : (Jvm.Cond.sameMethod y.cls owner y.name y.desc).before a0 Z = true) (w2' : (Jvm.Cond.declares ⟨owner, y.name, y.desc⟩).before a0 Z = true) (w3 : (Jvm.Cond.selects C y z).before a0 Z = true) (w4 : (Jvm.Cond.instanceMethod z).before a0 Z = true) (w5 : (Jvm.Cond.code z bytes maxL ret).before a0 Z = true) (w6 : (Jvm.Cond.initialized z.cls).before a0 Z = true)
    (hy : owner ≠ "java/lang/invoke/MethodHandle" ∧ owner ≠ "java/lang/invoke/VarHandle")
    {rm : Room} {a : Addr} {argsL rest : List Value} {Q : Option Value → Heap → List Loc → Prop} (hM : own_M l Z z bytes maxL ret rm (.ref a :: argsL).toArray h Q) (eT : T.heap = h) (E : Exa Z h a C) {g : JFrame} (hg : g.method = m) (hsize : g.locals.size = c.maxLocals) {ps : List FieldType} {r : Option FieldType} (hpd : parseMethodDescriptor y.desc = some ⟨ps, r⟩) (hpl : argsL.length = ps.length)
    (hstack : g.stack = argsL.reverse ++ .ref a :: rest) {W : Nat} (hW : 2 * g.monitorRoom + (rest.map fun v => v.category).sum ≤ W) (hdg : decode c.code g.pc = .ok (.invokevirtual index, 3)) (hf : rm.frames + 1 ≤ R.frames) (hl : W + (maxL + 11) + rm.locals ≤ R.locals) (hc : cells + rm.cells ≤ R.cells) (hs : slots + rm.slots ≤ R.slots) :
    ∃ (T' : State) (L : List Loc) (v : Option Value), Stand p l e R s m args below meth c T' (locs ++ L) (cells + rm.cells) (slots + rm.slots) ∧ Q v T'.heap L ∧ ∀ t, Steps p.tables e below (T'.setTop { g with pc := g.pc + 3, stack := v.toList ++ rest }) t → Steps p.tables e below (T.setTop g) t := by
  obtain ⟨cq, kq, qa, qb, qc⟩ := isOf hZ eT E
  obtain ⟨v, vm₁, ⟨T', L', k', n'⟩, -, X', ⟨L, hQ, e1, e2, e3⟩, st⟩ := X.virtualBackUp hx (x := y) (y := z) hown (mvT hZ w1) (mvT hZ w2) (mvT hZ w2') hy (mvT hZ w3) (mvT hZ w4) (backOf (W := W) (hM []) hZ w5 w6 hf hl) qa qc hg hsize (Steps.refl _) (argsL := argsL) (rest := rest) (lenOf hpd hpl) hstack hW hdg (fun _ _ => ⟨rfl, eT, hc, hs⟩)
  dsimp only [Pt.U, Pt.locs, Pt.cells, Pt.slots] at X' e1 e2 e3 st hQ
  subst e1 e2 e3
  exact ⟨T', L, v, X', hQ, fun t k => st.trans k⟩
theorem own_neL {i K : Int32} {k : Int} (h : ¬ i = K) (hk : K.toInt = k) : k ≠ i.toInt := fun q => h (Int32.toInt_inj.mp (by rw [hk, q]))
abbrev own_cell (cA : ClassId) (vs : Array Value) : Cell := { cls := cA, slots := vs, vm := .none }
theorem own_in {cl : Cell} {j : Int32} {n : Nat} (hs : cl.slots.size = n) (hj : ¬ (j < 0 ∨ n ≤ j.toNatClampNeg)) : ¬ (j < 0 ∨ cl.slots.size ≤ j.toNatClampNeg) := by rw [hs]; exact hj
theorem own_ext_refl (h : Heap) : Ext h h := ⟨Nat.le_refl _, fun _ _ q => q⟩
theorem own_ext_trans {h0 h h' : Heap} (E : Ext h0 h) (E' : Ext h h') : Ext h0 h' := ⟨Nat.le_trans E.1 E'.1, fun a c q => E'.2 a c (E.2 a c q)⟩
theorem own_ext_eq {h0 h h' : Heap} (E : Ext h0 h) (q : h' = h) : Ext h0 h' := q ▸ E
theorem own_acVF {v w : Value} (q : v = w) : Jvm.Free.XT.acmp .ne v w = false := by subst q; simp [Jvm.Free.XT.acmp]
theorem own_ext_wr {h0 h h' : Heap} {a : Addr} {sl : Nat} {v : Value} (E : Ext h0 h) (W : Wr h h' a sl v) (q : h0.size ≤ a) : Ext h0 h' := by
  refine ⟨by rw [W.size]; exact E.1, fun x cx hx => ?_⟩
  obtain ⟨c', e1, -, -, -, e5, -⟩ := wr_at W (E.2 x cx hx)
  rw [← e5 (Nat.ne_of_lt (Nat.lt_of_lt_of_le (Array.getElem?_eq_some_iff.mp hx).1 q))]
  exact e1
theorem own_fld {t : Term} {a : Addr} {C n d : String} {k : Int32} (ev : t.eval args Z none [] Z = some (.ref a)) (w : (Jvm.Cond.eq (.field t C n d) (.int k)).value args Z none Z [] = some true) : Fld Z Z.heap a C n d (.int k) := by
  obtain ⟨x, y, e1, e2, k1, k2⟩ := cmp_v (Or.inl w)
  obtain rfl : y = .int k := (Option.some.inj e2).symm
  obtain ⟨z, rfl⟩ := k2
  have hz := gotT (Jvm.Cond.eq_ints e1 e2) w
  rw [fld_at ev] at e1
  rw [hz] at e1
  exact Fld.start e1
theorem own_len {t : Term} {a : Addr} {cl : Cell} {ty : FieldType} {k : Int32} (ev : t.eval args Z none [] Z = some (.ref a)) (A : Arr Z Z.heap a cl ty) (w : (Jvm.Cond.eq (.length t) (.int k)).value args Z none Z [] = some true) : cl.slots.size = k.toInt.toNat := by
  obtain ⟨x, y, e1, e2, k1, k2⟩ := cmp_v (Or.inl w)
  obtain rfl : y = .int k := (Option.some.inj e2).symm
  obtain ⟨z, rfl⟩ := k2
  have hz := gotT (Jvm.Cond.eq_ints e1 e2) w
  have hA : Z.arrayAt? a = some cl := Arr.fin (Vm.Alike.refl _) A
  by_cases hl : cl.slots.size < 2 ^ 31
  · rw [len_f ev hA hl] at e1
    have h1 : cl.slots.size.toInt32 = z := Value.int.inj (Option.some.inj e1)
    rw [← hz, ← h1, len_toInt hl]
    rfl
  · simp [Term.eval, ev, hA, hl] at e1
theorem own_elemI {t : Term} {a : Addr} {cl : Cell} {ty : FieldType} {j k : Int32} (ev : t.eval args Z none [] Z = some (.ref a)) (A : Arr Z Z.heap a cl ty) (w : (Jvm.Cond.eq (.elem t (.int j)) (.int k)).value args Z none Z [] = some true) : cl.slots[j.toNatClampNeg]? = some (.int k) := by
  obtain ⟨x, y, e1, e2, k1, k2⟩ := cmp_v (Or.inl w)
  obtain rfl : y = .int k := (Option.some.inj e2).symm
  obtain ⟨z, rfl⟩ := k2
  have hz := gotT (Jvm.Cond.eq_ints e1 e2) w
  rw [← hz]
  exact (elem_in e1 ev (Term.int_eval j) A.1).2
theorem own_elemR {t u : Term} {a b : Addr} {cl : Cell} {ty : FieldType} {j : Int32} (ev : t.eval args Z none [] Z = some (.ref a)) (A : Arr Z Z.heap a cl ty) (ev' : u.eval args Z none [] Z = some (.ref b)) (w : (Jvm.Cond.eq (.elem t (.int j)) u).value args Z none Z [] = some true) : cl.slots[j.toNatClampNeg]? = some (.ref b) := by
  obtain ⟨x, y, e1, e2, k1, k2⟩ := cmp_v (Or.inl w)
  obtain rfl : y = .ref b := (Option.some.inj (ev'.symm.trans e2)).symm
  have hz := gotT (eq_R e1 e2 k2.2 rfl) w
  rw [← hz]
  exact (elem_in e1 ev (Term.int_eval j) A.1).2
theorem own_neV {a b : Int32} (h : a ≠ b) : (Value.int a) ≠ Value.int b := fun q => h (Value.int.inj q)
theorem own_acT {a b : Addr} (h : a = b) : Jvm.Free.XT.acmp .eq (.ref a) (.ref b) = true := by subst h; simp [Jvm.Free.XT.acmp]
theorem own_acF {a b : Addr} (h : a ≠ b) : Jvm.Free.XT.acmp .eq (.ref a) (.ref b) = false := by simp [Jvm.Free.XT.acmp, h]
theorem own_acnT {a b : Addr} (h : a ≠ b) : Jvm.Free.XT.acmp .ne (.ref a) (.ref b) = true := by simp [Jvm.Free.XT.acmp, h]
theorem own_acnF {a b : Addr} (h : a = b) : Jvm.Free.XT.acmp .ne (.ref a) (.ref b) = false := by subst h; simp [Jvm.Free.XT.acmp]
theorem own_mask (x : Int32) : 0 ≤ (x &&& 2147483647).toInt := by
  have := Jvm.Kit.i32_mask x 2147483647 (k := 31) (by decide) (by decide)
  omega
theorem own_rem (y n : Int32) (h0 : 0 ≤ y.toInt) (hn : 0 < n.toInt) : 0 ≤ (y % n).toInt ∧ (y % n).toInt < n.toInt := by
  rw [Int32.toInt_mod]
  exact ⟨Int.tmod_nonneg _ h0, by
    have := Int.tmod_lt_of_pos y.toInt hn
    exact this⟩
end Own
end Jvm.Pilot.@@N@@
namespace Jvm.Pilot.@@N@@
open Jvm Jvm.ClassFile Sem Op Lib Jvm.Free Jvm.Stand Jvm.LawKit Jvm.RoadKit Bundle Jvm.Pilot.@@N@@.Jvm.D
def own_B (Z : State) (h : Heap) (a_OTHER a_ENTER a_YES a_FIRST a_CANCEL a_PREVIOUS a_DOWN a_LAST a_QUIT a_TERMINATE a_UP a_MOST_WAITING a_NEXT : Addr) : Prop := Sta Z h "com/example/locktop/locktop/view/Key" "OTHER" "Lcom/example/locktop/locktop/view/Key;" (.ref a_OTHER) ∧ Exa Z h a_OTHER "com/example/locktop/locktop/view/Key" ∧ Sta Z h "com/example/locktop/locktop/view/Key" "ENTER" "Lcom/example/locktop/locktop/view/Key;" (.ref a_ENTER) ∧ Exa Z h a_ENTER "com/example/locktop/locktop/view/Key" ∧ Sta Z h "com/example/locktop/locktop/view/Key" "YES" "Lcom/example/locktop/locktop/view/Key;" (.ref a_YES) ∧ Exa Z h a_YES "com/example/locktop/locktop/view/Key" ∧ Sta Z h "com/example/locktop/locktop/view/Key" "FIRST" "Lcom/example/locktop/locktop/view/Key;" (.ref a_FIRST) ∧ Exa Z h a_FIRST "com/example/locktop/locktop/view/Key" ∧ Sta Z h "com/example/locktop/locktop/view/Key" "CANCEL" "Lcom/example/locktop/locktop/view/Key;" (.ref a_CANCEL) ∧ Exa Z h a_CANCEL "com/example/locktop/locktop/view/Key" ∧ Sta Z h "com/example/locktop/locktop/view/Key" "PREVIOUS" "Lcom/example/locktop/locktop/view/Key;" (.ref a_PREVIOUS) ∧ Exa Z h a_PREVIOUS "com/example/locktop/locktop/view/Key" ∧ Sta Z h "com/example/locktop/locktop/view/Key" "DOWN" "Lcom/example/locktop/locktop/view/Key;" (.ref a_DOWN) ∧ Exa Z h a_DOWN "com/example/locktop/locktop/view/Key" ∧ Sta Z h "com/example/locktop/locktop/view/Key" "LAST" "Lcom/example/locktop/locktop/view/Key;" (.ref a_LAST) ∧ Exa Z h a_LAST "com/example/locktop/locktop/view/Key" ∧ Sta Z h "com/example/locktop/locktop/view/Key" "QUIT" "Lcom/example/locktop/locktop/view/Key;" (.ref a_QUIT) ∧ Exa Z h a_QUIT "com/example/locktop/locktop/view/Key" ∧ Sta Z h "com/example/locktop/locktop/view/Key" "TERMINATE" "Lcom/example/locktop/locktop/view/Key;" (.ref a_TERMINATE) ∧ Exa Z h a_TERMINATE "com/example/locktop/locktop/view/Key" ∧ Sta Z h "com/example/locktop/locktop/view/Key" "UP" "Lcom/example/locktop/locktop/view/Key;" (.ref a_UP) ∧ Exa Z h a_UP "com/example/locktop/locktop/view/Key" ∧ Sta Z h "com/example/locktop/locktop/view/Key" "MOST_WAITING" "Lcom/example/locktop/locktop/view/Key;" (.ref a_MOST_WAITING) ∧ Exa Z h a_MOST_WAITING "com/example/locktop/locktop/view/Key" ∧ Sta Z h "com/example/locktop/locktop/view/Key" "NEXT" "Lcom/example/locktop/locktop/view/Key;" (.ref a_NEXT) ∧ Exa Z h a_NEXT "com/example/locktop/locktop/view/Key"
theorem own_B_ext {Z : State} {h h' : Heap} {a_OTHER a_ENTER a_YES a_FIRST a_CANCEL a_PREVIOUS a_DOWN a_LAST a_QUIT a_TERMINATE a_UP a_MOST_WAITING a_NEXT : Addr} (E : Ext h h') (B : own_B Z h a_OTHER a_ENTER a_YES a_FIRST a_CANCEL a_PREVIOUS a_DOWN a_LAST a_QUIT a_TERMINATE a_UP a_MOST_WAITING a_NEXT) : own_B Z h' a_OTHER a_ENTER a_YES a_FIRST a_CANCEL a_PREVIOUS a_DOWN a_LAST a_QUIT a_TERMINATE a_UP a_MOST_WAITING a_NEXT := by
  obtain ⟨S_OTHER, E_OTHER, S_ENTER, E_ENTER, S_YES, E_YES, S_FIRST, E_FIRST, S_CANCEL, E_CANCEL, S_PREVIOUS, E_PREVIOUS, S_DOWN, E_DOWN, S_LAST, E_LAST, S_QUIT, E_QUIT, S_TERMINATE, E_TERMINATE, S_UP, E_UP, S_MOST_WAITING, E_MOST_WAITING, S_NEXT, E_NEXT⟩ := B
  exact ⟨S_OTHER.ext E, E_OTHER.ext E, S_ENTER.ext E, E_ENTER.ext E, S_YES.ext E, E_YES.ext E, S_FIRST.ext E, E_FIRST.ext E, S_CANCEL.ext E, E_CANCEL.ext E, S_PREVIOUS.ext E, E_PREVIOUS.ext E, S_DOWN.ext E, E_DOWN.ext E, S_LAST.ext E, E_LAST.ext E, S_QUIT.ext E, E_QUIT.ext E, S_TERMINATE.ext E, E_TERMINATE.ext E, S_UP.ext E, E_UP.ext E, S_MOST_WAITING.ext E, E_MOST_WAITING.ext E, S_NEXT.ext E, E_NEXT.ext E⟩
def own_typed (a_OTHER a_ENTER a_YES a_FIRST a_CANCEL a_PREVIOUS a_DOWN a_LAST a_QUIT a_TERMINATE a_UP a_MOST_WAITING a_NEXT : Addr) (k1 : Int32) : Addr := (if k1 = (10 : Int32) then a_ENTER else (if k1 = (13 : Int32) then a_ENTER else (if k1 = (71 : Int32) then a_LAST else (if k1 = (75 : Int32) then a_TERMINATE else (if k1 = (99 : Int32) then a_CANCEL else (if k1 = (103 : Int32) then a_FIRST else (if k1 = (104 : Int32) then a_PREVIOUS else (if k1 = (106 : Int32) then a_DOWN else (if k1 = (107 : Int32) then a_UP else (if k1 = (108 : Int32) then a_NEXT else (if k1 = (113 : Int32) then a_QUIT else (if k1 = (119 : Int32) then a_MOST_WAITING else (if k1 = (121 : Int32) then a_YES else a_OTHER)))))))))))))
theorem d1_0 : decode prog_81_method_4_code 0 = .ok (.iload_n 0, 1) := by decide +kernel
theorem d1_1 : decode prog_81_method_4_code 1 = .ok (.lookupswitch 187 #[(10, 127), (13, 127), (71, 175), (75, 139), (99, 133), (103, 169), (104, 157), (106, 121), (107, 115), (108, 163), (113, 151), (119, 181), (121, 145)], 115) := by decide +kernel
theorem d1_116 : decode prog_81_method_4_code 116 = .ok (.getstatic 3, 3) := by decide +kernel
theorem d1_119 : decode prog_81_method_4_code 119 = .ok (.goto 72, 3) := by decide +kernel
theorem d1_122 : decode prog_81_method_4_code 122 = .ok (.getstatic 7, 3) := by decide +kernel
theorem d1_125 : decode prog_81_method_4_code 125 = .ok (.goto 66, 3) := by decide +kernel
theorem d1_128 : decode prog_81_method_4_code 128 = .ok (.getstatic 10, 3) := by decide +kernel
theorem d1_131 : decode prog_81_method_4_code 131 = .ok (.goto 60, 3) := by decide +kernel
theorem d1_134 : decode prog_81_method_4_code 134 = .ok (.getstatic 16, 3) := by decide +kernel
theorem d1_137 : decode prog_81_method_4_code 137 = .ok (.goto 54, 3) := by decide +kernel
theorem d1_140 : decode prog_81_method_4_code 140 = .ok (.getstatic 19, 3) := by decide +kernel
theorem d1_143 : decode prog_81_method_4_code 143 = .ok (.goto 48, 3) := by decide +kernel
theorem d1_146 : decode prog_81_method_4_code 146 = .ok (.getstatic 22, 3) := by decide +kernel
theorem d1_149 : decode prog_81_method_4_code 149 = .ok (.goto 42, 3) := by decide +kernel
theorem d1_152 : decode prog_81_method_4_code 152 = .ok (.getstatic 25, 3) := by decide +kernel
theorem d1_155 : decode prog_81_method_4_code 155 = .ok (.goto 36, 3) := by decide +kernel
theorem d1_158 : decode prog_81_method_4_code 158 = .ok (.getstatic 28, 3) := by decide +kernel
theorem d1_161 : decode prog_81_method_4_code 161 = .ok (.goto 30, 3) := by decide +kernel
theorem d1_164 : decode prog_81_method_4_code 164 = .ok (.getstatic 31, 3) := by decide +kernel
theorem d1_167 : decode prog_81_method_4_code 167 = .ok (.goto 24, 3) := by decide +kernel
theorem d1_170 : decode prog_81_method_4_code 170 = .ok (.getstatic 34, 3) := by decide +kernel
theorem d1_173 : decode prog_81_method_4_code 173 = .ok (.goto 18, 3) := by decide +kernel
theorem d1_176 : decode prog_81_method_4_code 176 = .ok (.getstatic 37, 3) := by decide +kernel
theorem d1_179 : decode prog_81_method_4_code 179 = .ok (.goto 12, 3) := by decide +kernel
theorem d1_182 : decode prog_81_method_4_code 182 = .ok (.getstatic 40, 3) := by decide +kernel
theorem d1_185 : decode prog_81_method_4_code 185 = .ok (.goto 6, 3) := by decide +kernel
theorem d1_188 : decode prog_81_method_4_code 188 = .ok (.getstatic 43, 3) := by decide +kernel
theorem d1_191 : decode prog_81_method_4_code 191 = .ok (.areturn, 1) := by decide +kernel
theorem pn_1 : plainFor (⟨"com/example/locktop/locktop/view/Key", "typed", "(I)Lcom/example/locktop/locktop/view/Key;"⟩ : MethodName) = true := by first | exact plainFor_of_name (by first | (simp [plainName, overriddenIn]; done) | decide +kernel) | decide +kernel
set_option maxRecDepth 65536 in
set_option maxHeartbeats 40000000 in
theorem c_typed (l : Launch) (Z : State) (a0 : Array Value) (hw : ∀ d ∈ tables_1, d.before a0 Z = true) (a_OTHER a_ENTER a_YES a_FIRST a_CANCEL a_PREVIOUS a_DOWN a_LAST a_QUIT a_TERMINATE a_UP a_MOST_WAITING a_NEXT : Addr) (k1 : Int32) (h0 : Heap) (B : own_B Z h0 a_OTHER a_ENTER a_YES a_FIRST a_CANCEL a_PREVIOUS a_DOWN a_LAST a_QUIT a_TERMINATE a_UP a_MOST_WAITING a_NEXT) :
    own_M l Z (⟨"com/example/locktop/locktop/view/Key", "typed", "(I)Lcom/example/locktop/locktop/view/Key;"⟩ : MethodName) prog_81_method_4_code 1 (some (.object "com/example/locktop/locktop/view/Key")) ⟨0, 0, 0, 0⟩ #[.int k1] h0 (fun v h L => v = some (.ref (own_typed a_OTHER a_ENTER a_YES a_FIRST a_CANCEL a_PREVIOUS a_DOWN a_LAST a_QUIT a_TERMINATE a_UP a_MOST_WAITING a_NEXT k1)) ∧ L = [] ∧ h = h0) := by
  refine own_body pn_1 ?_
  intro p e s m below meth c T0 hx hby hml hlk hown hret hnm hZ X0 e0
  replace hown : s.vm.findClass "com/example/locktop/locktop/view/Key" = some m.cls := hown
  replace hml : c.maxLocals = 1 := hml
  obtain ⟨S_OTHER, E_OTHER, S_ENTER, E_ENTER, S_YES, E_YES, S_FIRST, E_FIRST, S_CANCEL, E_CANCEL, S_PREVIOUS, E_PREVIOUS, S_DOWN, E_DOWN, S_LAST, E_LAST, S_QUIT, E_QUIT, S_TERMINATE, E_TERMINATE, S_UP, E_UP, S_MOST_WAITING, E_MOST_WAITING, S_NEXT, E_NEXT⟩ := id B
  have ef : entryFrame m #[.int k1] 1 = (mkF m 0 #[.val (.int k1)] []) := by first | (simp [entryFrame, mkF, argsToLocals, Value.category]; done) | rfl
  rw [ef]
  refine own_go (fun t k => XS.iloadN X0.here hx rfl (hb hby d1_0) rfl k) ?_
  show own_G p e below _ T0 (mkF m 1 #[.val (.int k1)] [(.int k1)])
  by_cases hc1 : k1 = (10 : Int32)
  ·
    refine own_go (X0.lookupswitchHit hx (g := (mkF m 1 #[.val (.int k1)] [(.int k1)])) rfl rfl (hb hby d1_1) (by decide) (a := 10) (off := 127) (by rw [hc1]; decide) (show (0 : Int) ≤ ((1 : Nat) : Int) + 127 by decide)) ?_
    show own_G p e below _ T0 (mkF m 128 #[.val (.int k1)] [])
    obtain ⟨T2, X2, e2, st2⟩ := getS X0 hx hZ hown (host := "") (hw _ (List.mem_of_getElem? (i := 12) rfl)) Via.refl e0 S_ENTER (g := (mkF m 128 #[.val (.int k1)] [])) rfl (hb hby d1_128)
    refine own_go st2 ?_
    show own_G p e below _ T2 (mkF m 131 #[.val (.int k1)] [(.ref a_ENTER)])
    refine own_go (fun t k => XS.goto X2.here hx rfl (pc0 := 131) (pc' := 191) rfl (hb hby d1_131) (by decide) (by decide) k) ?_
    show own_G p e below _ T2 (mkF m 191 #[.val (.int k1)] [(.ref a_ENTER)])
    exact own_retA X2 hx hlk hret rfl rfl (hb hby d1_191) (by decide) (by decide) ⟨congrArg some (congrArg Value.ref (Eq.symm (show (own_typed a_OTHER a_ENTER a_YES a_FIRST a_CANCEL a_PREVIOUS a_DOWN a_LAST a_QUIT a_TERMINATE a_UP a_MOST_WAITING a_NEXT k1) = a_ENTER from (by unfold own_typed; rw [if_pos hc1])))), rfl, e2⟩
  by_cases hc3 : k1 = (13 : Int32)
  ·
    refine own_go (X0.lookupswitchHit hx (g := (mkF m 1 #[.val (.int k1)] [(.int k1)])) rfl rfl (hb hby d1_1) (by decide) (a := 13) (off := 127) (by rw [hc3]; decide) (show (0 : Int) ≤ ((1 : Nat) : Int) + 127 by decide)) ?_
    show own_G p e below _ T0 (mkF m 128 #[.val (.int k1)] [])
    obtain ⟨T4, X4, e4, st4⟩ := getS X0 hx hZ hown (host := "") (hw _ (List.mem_of_getElem? (i := 12) rfl)) Via.refl e0 S_ENTER (g := (mkF m 128 #[.val (.int k1)] [])) rfl (hb hby d1_128)
    refine own_go st4 ?_
    show own_G p e below _ T4 (mkF m 131 #[.val (.int k1)] [(.ref a_ENTER)])
    refine own_go (fun t k => XS.goto X4.here hx rfl (pc0 := 131) (pc' := 191) rfl (hb hby d1_131) (by decide) (by decide) k) ?_
    show own_G p e below _ T4 (mkF m 191 #[.val (.int k1)] [(.ref a_ENTER)])
    exact own_retA X4 hx hlk hret rfl rfl (hb hby d1_191) (by decide) (by decide) ⟨congrArg some (congrArg Value.ref (Eq.symm (show (own_typed a_OTHER a_ENTER a_YES a_FIRST a_CANCEL a_PREVIOUS a_DOWN a_LAST a_QUIT a_TERMINATE a_UP a_MOST_WAITING a_NEXT k1) = a_ENTER from (by unfold own_typed; rw [if_neg hc1, if_pos hc3])))), rfl, e4⟩
  by_cases hc5 : k1 = (71 : Int32)
  ·
    refine own_go (X0.lookupswitchHit hx (g := (mkF m 1 #[.val (.int k1)] [(.int k1)])) rfl rfl (hb hby d1_1) (by decide) (a := 71) (off := 175) (by rw [hc5]; decide) (show (0 : Int) ≤ ((1 : Nat) : Int) + 175 by decide)) ?_
    show own_G p e below _ T0 (mkF m 176 #[.val (.int k1)] [])
    obtain ⟨T6, X6, e6, st6⟩ := getS X0 hx hZ hown (host := "") (hw _ (List.mem_of_getElem? (i := 30) rfl)) Via.refl e0 S_LAST (g := (mkF m 176 #[.val (.int k1)] [])) rfl (hb hby d1_176)
    refine own_go st6 ?_
    show own_G p e below _ T6 (mkF m 179 #[.val (.int k1)] [(.ref a_LAST)])
    refine own_go (fun t k => XS.goto X6.here hx rfl (pc0 := 179) (pc' := 191) rfl (hb hby d1_179) (by decide) (by decide) k) ?_
    show own_G p e below _ T6 (mkF m 191 #[.val (.int k1)] [(.ref a_LAST)])
    exact own_retA X6 hx hlk hret rfl rfl (hb hby d1_191) (by decide) (by decide) ⟨congrArg some (congrArg Value.ref (Eq.symm (show (own_typed a_OTHER a_ENTER a_YES a_FIRST a_CANCEL a_PREVIOUS a_DOWN a_LAST a_QUIT a_TERMINATE a_UP a_MOST_WAITING a_NEXT k1) = a_LAST from (by unfold own_typed; rw [if_neg hc1, if_neg hc3, if_pos hc5])))), rfl, e6⟩
  by_cases hc7 : k1 = (75 : Int32)
  ·
    refine own_go (X0.lookupswitchHit hx (g := (mkF m 1 #[.val (.int k1)] [(.int k1)])) rfl rfl (hb hby d1_1) (by decide) (a := 75) (off := 139) (by rw [hc7]; decide) (show (0 : Int) ≤ ((1 : Nat) : Int) + 139 by decide)) ?_
    show own_G p e below _ T0 (mkF m 140 #[.val (.int k1)] [])
    obtain ⟨T8, X8, e8, st8⟩ := getS X0 hx hZ hown (host := "") (hw _ (List.mem_of_getElem? (i := 36) rfl)) Via.refl e0 S_TERMINATE (g := (mkF m 140 #[.val (.int k1)] [])) rfl (hb hby d1_140)
    refine own_go st8 ?_
    show own_G p e below _ T8 (mkF m 143 #[.val (.int k1)] [(.ref a_TERMINATE)])
    refine own_go (fun t k => XS.goto X8.here hx rfl (pc0 := 143) (pc' := 191) rfl (hb hby d1_143) (by decide) (by decide) k) ?_
    show own_G p e below _ T8 (mkF m 191 #[.val (.int k1)] [(.ref a_TERMINATE)])
    exact own_retA X8 hx hlk hret rfl rfl (hb hby d1_191) (by decide) (by decide) ⟨congrArg some (congrArg Value.ref (Eq.symm (show (own_typed a_OTHER a_ENTER a_YES a_FIRST a_CANCEL a_PREVIOUS a_DOWN a_LAST a_QUIT a_TERMINATE a_UP a_MOST_WAITING a_NEXT k1) = a_TERMINATE from (by unfold own_typed; rw [if_neg hc1, if_neg hc3, if_neg hc5, if_pos hc7])))), rfl, e8⟩
  by_cases hc9 : k1 = (99 : Int32)
  ·
    refine own_go (X0.lookupswitchHit hx (g := (mkF m 1 #[.val (.int k1)] [(.int k1)])) rfl rfl (hb hby d1_1) (by decide) (a := 99) (off := 133) (by rw [hc9]; decide) (show (0 : Int) ≤ ((1 : Nat) : Int) + 133 by decide)) ?_
    show own_G p e below _ T0 (mkF m 134 #[.val (.int k1)] [])
    obtain ⟨T10, X10, e10, st10⟩ := getS X0 hx hZ hown (host := "") (hw _ (List.mem_of_getElem? (i := 21) rfl)) Via.refl e0 S_CANCEL (g := (mkF m 134 #[.val (.int k1)] [])) rfl (hb hby d1_134)
    refine own_go st10 ?_
    show own_G p e below _ T10 (mkF m 137 #[.val (.int k1)] [(.ref a_CANCEL)])
    refine own_go (fun t k => XS.goto X10.here hx rfl (pc0 := 137) (pc' := 191) rfl (hb hby d1_137) (by decide) (by decide) k) ?_
    show own_G p e below _ T10 (mkF m 191 #[.val (.int k1)] [(.ref a_CANCEL)])
    exact own_retA X10 hx hlk hret rfl rfl (hb hby d1_191) (by decide) (by decide) ⟨congrArg some (congrArg Value.ref (Eq.symm (show (own_typed a_OTHER a_ENTER a_YES a_FIRST a_CANCEL a_PREVIOUS a_DOWN a_LAST a_QUIT a_TERMINATE a_UP a_MOST_WAITING a_NEXT k1) = a_CANCEL from (by unfold own_typed; rw [if_neg hc1, if_neg hc3, if_neg hc5, if_neg hc7, if_pos hc9])))), rfl, e10⟩
  by_cases hc11 : k1 = (103 : Int32)
  ·
    refine own_go (X0.lookupswitchHit hx (g := (mkF m 1 #[.val (.int k1)] [(.int k1)])) rfl rfl (hb hby d1_1) (by decide) (a := 103) (off := 169) (by rw [hc11]; decide) (show (0 : Int) ≤ ((1 : Nat) : Int) + 169 by decide)) ?_
    show own_G p e below _ T0 (mkF m 170 #[.val (.int k1)] [])
    obtain ⟨T12, X12, e12, st12⟩ := getS X0 hx hZ hown (host := "") (hw _ (List.mem_of_getElem? (i := 18) rfl)) Via.refl e0 S_FIRST (g := (mkF m 170 #[.val (.int k1)] [])) rfl (hb hby d1_170)
    refine own_go st12 ?_
    show own_G p e below _ T12 (mkF m 173 #[.val (.int k1)] [(.ref a_FIRST)])
    refine own_go (fun t k => XS.goto X12.here hx rfl (pc0 := 173) (pc' := 191) rfl (hb hby d1_173) (by decide) (by decide) k) ?_
    show own_G p e below _ T12 (mkF m 191 #[.val (.int k1)] [(.ref a_FIRST)])
    exact own_retA X12 hx hlk hret rfl rfl (hb hby d1_191) (by decide) (by decide) ⟨congrArg some (congrArg Value.ref (Eq.symm (show (own_typed a_OTHER a_ENTER a_YES a_FIRST a_CANCEL a_PREVIOUS a_DOWN a_LAST a_QUIT a_TERMINATE a_UP a_MOST_WAITING a_NEXT k1) = a_FIRST from (by unfold own_typed; rw [if_neg hc1, if_neg hc3, if_neg hc5, if_neg hc7, if_neg hc9, if_pos hc11])))), rfl, e12⟩
  by_cases hc13 : k1 = (104 : Int32)
  ·
    refine own_go (X0.lookupswitchHit hx (g := (mkF m 1 #[.val (.int k1)] [(.int k1)])) rfl rfl (hb hby d1_1) (by decide) (a := 104) (off := 157) (by rw [hc13]; decide) (show (0 : Int) ≤ ((1 : Nat) : Int) + 157 by decide)) ?_
    show own_G p e below _ T0 (mkF m 158 #[.val (.int k1)] [])
    obtain ⟨T14, X14, e14, st14⟩ := getS X0 hx hZ hown (host := "") (hw _ (List.mem_of_getElem? (i := 24) rfl)) Via.refl e0 S_PREVIOUS (g := (mkF m 158 #[.val (.int k1)] [])) rfl (hb hby d1_158)
    refine own_go st14 ?_
    show own_G p e below _ T14 (mkF m 161 #[.val (.int k1)] [(.ref a_PREVIOUS)])
    refine own_go (fun t k => XS.goto X14.here hx rfl (pc0 := 161) (pc' := 191) rfl (hb hby d1_161) (by decide) (by decide) k) ?_
    show own_G p e below _ T14 (mkF m 191 #[.val (.int k1)] [(.ref a_PREVIOUS)])
    exact own_retA X14 hx hlk hret rfl rfl (hb hby d1_191) (by decide) (by decide) ⟨congrArg some (congrArg Value.ref (Eq.symm (show (own_typed a_OTHER a_ENTER a_YES a_FIRST a_CANCEL a_PREVIOUS a_DOWN a_LAST a_QUIT a_TERMINATE a_UP a_MOST_WAITING a_NEXT k1) = a_PREVIOUS from (by unfold own_typed; rw [if_neg hc1, if_neg hc3, if_neg hc5, if_neg hc7, if_neg hc9, if_neg hc11, if_pos hc13])))), rfl, e14⟩
  by_cases hc15 : k1 = (106 : Int32)
  ·
    refine own_go (X0.lookupswitchHit hx (g := (mkF m 1 #[.val (.int k1)] [(.int k1)])) rfl rfl (hb hby d1_1) (by decide) (a := 106) (off := 121) (by rw [hc15]; decide) (show (0 : Int) ≤ ((1 : Nat) : Int) + 121 by decide)) ?_
    show own_G p e below _ T0 (mkF m 122 #[.val (.int k1)] [])
    obtain ⟨T16, X16, e16, st16⟩ := getS X0 hx hZ hown (host := "") (hw _ (List.mem_of_getElem? (i := 27) rfl)) Via.refl e0 S_DOWN (g := (mkF m 122 #[.val (.int k1)] [])) rfl (hb hby d1_122)
    refine own_go st16 ?_
    show own_G p e below _ T16 (mkF m 125 #[.val (.int k1)] [(.ref a_DOWN)])
    refine own_go (fun t k => XS.goto X16.here hx rfl (pc0 := 125) (pc' := 191) rfl (hb hby d1_125) (by decide) (by decide) k) ?_
    show own_G p e below _ T16 (mkF m 191 #[.val (.int k1)] [(.ref a_DOWN)])
    exact own_retA X16 hx hlk hret rfl rfl (hb hby d1_191) (by decide) (by decide) ⟨congrArg some (congrArg Value.ref (Eq.symm (show (own_typed a_OTHER a_ENTER a_YES a_FIRST a_CANCEL a_PREVIOUS a_DOWN a_LAST a_QUIT a_TERMINATE a_UP a_MOST_WAITING a_NEXT k1) = a_DOWN from (by unfold own_typed; rw [if_neg hc1, if_neg hc3, if_neg hc5, if_neg hc7, if_neg hc9, if_neg hc11, if_neg hc13, if_pos hc15])))), rfl, e16⟩
  by_cases hc17 : k1 = (107 : Int32)
  ·
    refine own_go (X0.lookupswitchHit hx (g := (mkF m 1 #[.val (.int k1)] [(.int k1)])) rfl rfl (hb hby d1_1) (by decide) (a := 107) (off := 115) (by rw [hc17]; decide) (show (0 : Int) ≤ ((1 : Nat) : Int) + 115 by decide)) ?_
    show own_G p e below _ T0 (mkF m 116 #[.val (.int k1)] [])
    obtain ⟨T18, X18, e18, st18⟩ := getS X0 hx hZ hown (host := "") (hw _ (List.mem_of_getElem? (i := 39) rfl)) Via.refl e0 S_UP (g := (mkF m 116 #[.val (.int k1)] [])) rfl (hb hby d1_116)
    refine own_go st18 ?_
    show own_G p e below _ T18 (mkF m 119 #[.val (.int k1)] [(.ref a_UP)])
    refine own_go (fun t k => XS.goto X18.here hx rfl (pc0 := 119) (pc' := 191) rfl (hb hby d1_119) (by decide) (by decide) k) ?_
    show own_G p e below _ T18 (mkF m 191 #[.val (.int k1)] [(.ref a_UP)])
    exact own_retA X18 hx hlk hret rfl rfl (hb hby d1_191) (by decide) (by decide) ⟨congrArg some (congrArg Value.ref (Eq.symm (show (own_typed a_OTHER a_ENTER a_YES a_FIRST a_CANCEL a_PREVIOUS a_DOWN a_LAST a_QUIT a_TERMINATE a_UP a_MOST_WAITING a_NEXT k1) = a_UP from (by unfold own_typed; rw [if_neg hc1, if_neg hc3, if_neg hc5, if_neg hc7, if_neg hc9, if_neg hc11, if_neg hc13, if_neg hc15, if_pos hc17])))), rfl, e18⟩
  by_cases hc19 : k1 = (108 : Int32)
  ·
    refine own_go (X0.lookupswitchHit hx (g := (mkF m 1 #[.val (.int k1)] [(.int k1)])) rfl rfl (hb hby d1_1) (by decide) (a := 108) (off := 163) (by rw [hc19]; decide) (show (0 : Int) ≤ ((1 : Nat) : Int) + 163 by decide)) ?_
    show own_G p e below _ T0 (mkF m 164 #[.val (.int k1)] [])
    obtain ⟨T20, X20, e20, st20⟩ := getS X0 hx hZ hown (host := "") (hw _ (List.mem_of_getElem? (i := 45) rfl)) Via.refl e0 S_NEXT (g := (mkF m 164 #[.val (.int k1)] [])) rfl (hb hby d1_164)
    refine own_go st20 ?_
    show own_G p e below _ T20 (mkF m 167 #[.val (.int k1)] [(.ref a_NEXT)])
    refine own_go (fun t k => XS.goto X20.here hx rfl (pc0 := 167) (pc' := 191) rfl (hb hby d1_167) (by decide) (by decide) k) ?_
    show own_G p e below _ T20 (mkF m 191 #[.val (.int k1)] [(.ref a_NEXT)])
    exact own_retA X20 hx hlk hret rfl rfl (hb hby d1_191) (by decide) (by decide) ⟨congrArg some (congrArg Value.ref (Eq.symm (show (own_typed a_OTHER a_ENTER a_YES a_FIRST a_CANCEL a_PREVIOUS a_DOWN a_LAST a_QUIT a_TERMINATE a_UP a_MOST_WAITING a_NEXT k1) = a_NEXT from (by unfold own_typed; rw [if_neg hc1, if_neg hc3, if_neg hc5, if_neg hc7, if_neg hc9, if_neg hc11, if_neg hc13, if_neg hc15, if_neg hc17, if_pos hc19])))), rfl, e20⟩
  by_cases hc21 : k1 = (113 : Int32)
  ·
    refine own_go (X0.lookupswitchHit hx (g := (mkF m 1 #[.val (.int k1)] [(.int k1)])) rfl rfl (hb hby d1_1) (by decide) (a := 113) (off := 151) (by rw [hc21]; decide) (show (0 : Int) ≤ ((1 : Nat) : Int) + 151 by decide)) ?_
    show own_G p e below _ T0 (mkF m 152 #[.val (.int k1)] [])
    obtain ⟨T22, X22, e22, st22⟩ := getS X0 hx hZ hown (host := "") (hw _ (List.mem_of_getElem? (i := 33) rfl)) Via.refl e0 S_QUIT (g := (mkF m 152 #[.val (.int k1)] [])) rfl (hb hby d1_152)
    refine own_go st22 ?_
    show own_G p e below _ T22 (mkF m 155 #[.val (.int k1)] [(.ref a_QUIT)])
    refine own_go (fun t k => XS.goto X22.here hx rfl (pc0 := 155) (pc' := 191) rfl (hb hby d1_155) (by decide) (by decide) k) ?_
    show own_G p e below _ T22 (mkF m 191 #[.val (.int k1)] [(.ref a_QUIT)])
    exact own_retA X22 hx hlk hret rfl rfl (hb hby d1_191) (by decide) (by decide) ⟨congrArg some (congrArg Value.ref (Eq.symm (show (own_typed a_OTHER a_ENTER a_YES a_FIRST a_CANCEL a_PREVIOUS a_DOWN a_LAST a_QUIT a_TERMINATE a_UP a_MOST_WAITING a_NEXT k1) = a_QUIT from (by unfold own_typed; rw [if_neg hc1, if_neg hc3, if_neg hc5, if_neg hc7, if_neg hc9, if_neg hc11, if_neg hc13, if_neg hc15, if_neg hc17, if_neg hc19, if_pos hc21])))), rfl, e22⟩
  by_cases hc23 : k1 = (119 : Int32)
  ·
    refine own_go (X0.lookupswitchHit hx (g := (mkF m 1 #[.val (.int k1)] [(.int k1)])) rfl rfl (hb hby d1_1) (by decide) (a := 119) (off := 181) (by rw [hc23]; decide) (show (0 : Int) ≤ ((1 : Nat) : Int) + 181 by decide)) ?_
    show own_G p e below _ T0 (mkF m 182 #[.val (.int k1)] [])
    obtain ⟨T24, X24, e24, st24⟩ := getS X0 hx hZ hown (host := "") (hw _ (List.mem_of_getElem? (i := 42) rfl)) Via.refl e0 S_MOST_WAITING (g := (mkF m 182 #[.val (.int k1)] [])) rfl (hb hby d1_182)
    refine own_go st24 ?_
    show own_G p e below _ T24 (mkF m 185 #[.val (.int k1)] [(.ref a_MOST_WAITING)])
    refine own_go (fun t k => XS.goto X24.here hx rfl (pc0 := 185) (pc' := 191) rfl (hb hby d1_185) (by decide) (by decide) k) ?_
    show own_G p e below _ T24 (mkF m 191 #[.val (.int k1)] [(.ref a_MOST_WAITING)])
    exact own_retA X24 hx hlk hret rfl rfl (hb hby d1_191) (by decide) (by decide) ⟨congrArg some (congrArg Value.ref (Eq.symm (show (own_typed a_OTHER a_ENTER a_YES a_FIRST a_CANCEL a_PREVIOUS a_DOWN a_LAST a_QUIT a_TERMINATE a_UP a_MOST_WAITING a_NEXT k1) = a_MOST_WAITING from (by unfold own_typed; rw [if_neg hc1, if_neg hc3, if_neg hc5, if_neg hc7, if_neg hc9, if_neg hc11, if_neg hc13, if_neg hc15, if_neg hc17, if_neg hc19, if_neg hc21, if_pos hc23])))), rfl, e24⟩
  by_cases hc25 : k1 = (121 : Int32)
  ·
    refine own_go (X0.lookupswitchHit hx (g := (mkF m 1 #[.val (.int k1)] [(.int k1)])) rfl rfl (hb hby d1_1) (by decide) (a := 121) (off := 145) (by rw [hc25]; decide) (show (0 : Int) ≤ ((1 : Nat) : Int) + 145 by decide)) ?_
    show own_G p e below _ T0 (mkF m 146 #[.val (.int k1)] [])
    obtain ⟨T26, X26, e26, st26⟩ := getS X0 hx hZ hown (host := "") (hw _ (List.mem_of_getElem? (i := 15) rfl)) Via.refl e0 S_YES (g := (mkF m 146 #[.val (.int k1)] [])) rfl (hb hby d1_146)
    refine own_go st26 ?_
    show own_G p e below _ T26 (mkF m 149 #[.val (.int k1)] [(.ref a_YES)])
    refine own_go (fun t k => XS.goto X26.here hx rfl (pc0 := 149) (pc' := 191) rfl (hb hby d1_149) (by decide) (by decide) k) ?_
    show own_G p e below _ T26 (mkF m 191 #[.val (.int k1)] [(.ref a_YES)])
    exact own_retA X26 hx hlk hret rfl rfl (hb hby d1_191) (by decide) (by decide) ⟨congrArg some (congrArg Value.ref (Eq.symm (show (own_typed a_OTHER a_ENTER a_YES a_FIRST a_CANCEL a_PREVIOUS a_DOWN a_LAST a_QUIT a_TERMINATE a_UP a_MOST_WAITING a_NEXT k1) = a_YES from (by unfold own_typed; rw [if_neg hc1, if_neg hc3, if_neg hc5, if_neg hc7, if_neg hc9, if_neg hc11, if_neg hc13, if_neg hc15, if_neg hc17, if_neg hc19, if_neg hc21, if_neg hc23, if_pos hc25])))), rfl, e26⟩
  refine own_go (X0.lookupswitchMiss hx (g := (mkF m 1 #[.val (.int k1)] [(.int k1)])) rfl rfl (hb hby d1_1) (by decide) (find_miss (by intro q hq; simp at hq; rcases hq with rfl | rfl | rfl | rfl | rfl | rfl | rfl | rfl | rfl | rfl | rfl | rfl | rfl; exact own_neL hc1 (by decide); exact own_neL hc3 (by decide); exact own_neL hc5 (by decide); exact own_neL hc7 (by decide); exact own_neL hc9 (by decide); exact own_neL hc11 (by decide); exact own_neL hc13 (by decide); exact own_neL hc15 (by decide); exact own_neL hc17 (by decide); exact own_neL hc19 (by decide); exact own_neL hc21 (by decide); exact own_neL hc23 (by decide); exact own_neL hc25 (by decide))) (show (0 : Int) ≤ ((1 : Nat) : Int) + 187 by decide)) ?_
  show own_G p e below _ T0 (mkF m 188 #[.val (.int k1)] [])
  obtain ⟨T27, X27, e27, st27⟩ := getS X0 hx hZ hown (host := "") (hw _ (List.mem_of_getElem? (i := 4) rfl)) Via.refl e0 S_OTHER (g := (mkF m 188 #[.val (.int k1)] [])) rfl (hb hby d1_188)
  refine own_go st27 ?_
  show own_G p e below _ T27 (mkF m 191 #[.val (.int k1)] [(.ref a_OTHER)])
  exact own_retA X27 hx hlk hret rfl rfl (hb hby d1_191) (by decide) (by decide) ⟨congrArg some (congrArg Value.ref (Eq.symm (show (own_typed a_OTHER a_ENTER a_YES a_FIRST a_CANCEL a_PREVIOUS a_DOWN a_LAST a_QUIT a_TERMINATE a_UP a_MOST_WAITING a_NEXT k1) = a_OTHER from (by unfold own_typed; rw [if_neg hc1, if_neg hc3, if_neg hc5, if_neg hc7, if_neg hc9, if_neg hc11, if_neg hc13, if_neg hc15, if_neg hc17, if_neg hc19, if_neg hc21, if_neg hc23, if_neg hc25])))), rfl, e27⟩
def own_exp (a_OTHER a_ENTER a_YES a_FIRST a_CANCEL a_PREVIOUS a_DOWN a_LAST a_QUIT a_TERMINATE a_UP a_MOST_WAITING a_NEXT : Addr) (k1 : Int32) : Addr := (if k1 = (107 : Int32) then a_UP else (if k1 = (106 : Int32) then a_DOWN else (if k1 = (13 : Int32) then a_ENTER else (if k1 = (10 : Int32) then a_ENTER else (if k1 = (99 : Int32) then a_CANCEL else (if k1 = (75 : Int32) then a_TERMINATE else (if k1 = (121 : Int32) then a_YES else (if k1 = (113 : Int32) then a_QUIT else (if k1 = (104 : Int32) then a_PREVIOUS else (if k1 = (108 : Int32) then a_NEXT else (if k1 = (103 : Int32) then a_FIRST else (if k1 = (71 : Int32) then a_LAST else (if k1 = (119 : Int32) then a_MOST_WAITING else a_OTHER)))))))))))))
theorem d2_0 : decode method_3_code 0 = .ok (.iload_n 0, 1) := by decide +kernel
theorem d2_1 : decode method_3_code 1 = .ok (.bipush 107, 2) := by decide +kernel
theorem d2_3 : decode method_3_code 3 = .ok (.if_icmp .ne 7, 3) := by decide +kernel
theorem d2_6 : decode method_3_code 6 = .ok (.getstatic 19, 3) := by decide +kernel
theorem d2_9 : decode method_3_code 9 = .ok (.areturn, 1) := by decide +kernel
theorem d2_10 : decode method_3_code 10 = .ok (.iload_n 0, 1) := by decide +kernel
theorem d2_11 : decode method_3_code 11 = .ok (.bipush 106, 2) := by decide +kernel
theorem d2_13 : decode method_3_code 13 = .ok (.if_icmp .ne 7, 3) := by decide +kernel
theorem d2_16 : decode method_3_code 16 = .ok (.getstatic 23, 3) := by decide +kernel
theorem d2_19 : decode method_3_code 19 = .ok (.areturn, 1) := by decide +kernel
theorem d2_20 : decode method_3_code 20 = .ok (.iload_n 0, 1) := by decide +kernel
theorem d2_21 : decode method_3_code 21 = .ok (.bipush 13, 2) := by decide +kernel
theorem d2_23 : decode method_3_code 23 = .ok (.if_icmp .eq 9, 3) := by decide +kernel
theorem d2_26 : decode method_3_code 26 = .ok (.iload_n 0, 1) := by decide +kernel
theorem d2_27 : decode method_3_code 27 = .ok (.bipush 10, 2) := by decide +kernel
theorem d2_29 : decode method_3_code 29 = .ok (.if_icmp .ne 7, 3) := by decide +kernel
theorem d2_32 : decode method_3_code 32 = .ok (.getstatic 26, 3) := by decide +kernel
theorem d2_35 : decode method_3_code 35 = .ok (.areturn, 1) := by decide +kernel
theorem d2_36 : decode method_3_code 36 = .ok (.iload_n 0, 1) := by decide +kernel
theorem d2_37 : decode method_3_code 37 = .ok (.bipush 99, 2) := by decide +kernel
theorem d2_39 : decode method_3_code 39 = .ok (.if_icmp .ne 7, 3) := by decide +kernel
theorem d2_42 : decode method_3_code 42 = .ok (.getstatic 29, 3) := by decide +kernel
theorem d2_45 : decode method_3_code 45 = .ok (.areturn, 1) := by decide +kernel
theorem d2_46 : decode method_3_code 46 = .ok (.iload_n 0, 1) := by decide +kernel
theorem d2_47 : decode method_3_code 47 = .ok (.bipush 75, 2) := by decide +kernel
theorem d2_49 : decode method_3_code 49 = .ok (.if_icmp .ne 7, 3) := by decide +kernel
theorem d2_52 : decode method_3_code 52 = .ok (.getstatic 32, 3) := by decide +kernel
theorem d2_55 : decode method_3_code 55 = .ok (.areturn, 1) := by decide +kernel
theorem d2_56 : decode method_3_code 56 = .ok (.iload_n 0, 1) := by decide +kernel
theorem d2_57 : decode method_3_code 57 = .ok (.bipush 121, 2) := by decide +kernel
theorem d2_59 : decode method_3_code 59 = .ok (.if_icmp .ne 7, 3) := by decide +kernel
theorem d2_62 : decode method_3_code 62 = .ok (.getstatic 35, 3) := by decide +kernel
theorem d2_65 : decode method_3_code 65 = .ok (.areturn, 1) := by decide +kernel
theorem d2_66 : decode method_3_code 66 = .ok (.iload_n 0, 1) := by decide +kernel
theorem d2_67 : decode method_3_code 67 = .ok (.bipush 113, 2) := by decide +kernel
theorem d2_69 : decode method_3_code 69 = .ok (.if_icmp .ne 7, 3) := by decide +kernel
theorem d2_72 : decode method_3_code 72 = .ok (.getstatic 38, 3) := by decide +kernel
theorem d2_75 : decode method_3_code 75 = .ok (.areturn, 1) := by decide +kernel
theorem d2_76 : decode method_3_code 76 = .ok (.iload_n 0, 1) := by decide +kernel
theorem d2_77 : decode method_3_code 77 = .ok (.bipush 104, 2) := by decide +kernel
theorem d2_79 : decode method_3_code 79 = .ok (.if_icmp .ne 7, 3) := by decide +kernel
theorem d2_82 : decode method_3_code 82 = .ok (.getstatic 41, 3) := by decide +kernel
theorem d2_85 : decode method_3_code 85 = .ok (.areturn, 1) := by decide +kernel
theorem d2_86 : decode method_3_code 86 = .ok (.iload_n 0, 1) := by decide +kernel
theorem d2_87 : decode method_3_code 87 = .ok (.bipush 108, 2) := by decide +kernel
theorem d2_89 : decode method_3_code 89 = .ok (.if_icmp .ne 7, 3) := by decide +kernel
theorem d2_92 : decode method_3_code 92 = .ok (.getstatic 44, 3) := by decide +kernel
theorem d2_95 : decode method_3_code 95 = .ok (.areturn, 1) := by decide +kernel
theorem d2_96 : decode method_3_code 96 = .ok (.iload_n 0, 1) := by decide +kernel
theorem d2_97 : decode method_3_code 97 = .ok (.bipush 103, 2) := by decide +kernel
theorem d2_99 : decode method_3_code 99 = .ok (.if_icmp .ne 7, 3) := by decide +kernel
theorem d2_102 : decode method_3_code 102 = .ok (.getstatic 47, 3) := by decide +kernel
theorem d2_105 : decode method_3_code 105 = .ok (.areturn, 1) := by decide +kernel
theorem d2_106 : decode method_3_code 106 = .ok (.iload_n 0, 1) := by decide +kernel
theorem d2_107 : decode method_3_code 107 = .ok (.bipush 71, 2) := by decide +kernel
theorem d2_109 : decode method_3_code 109 = .ok (.if_icmp .ne 7, 3) := by decide +kernel
theorem d2_112 : decode method_3_code 112 = .ok (.getstatic 50, 3) := by decide +kernel
theorem d2_115 : decode method_3_code 115 = .ok (.areturn, 1) := by decide +kernel
theorem d2_116 : decode method_3_code 116 = .ok (.iload_n 0, 1) := by decide +kernel
theorem d2_117 : decode method_3_code 117 = .ok (.bipush 119, 2) := by decide +kernel
theorem d2_119 : decode method_3_code 119 = .ok (.if_icmp .ne 7, 3) := by decide +kernel
theorem d2_122 : decode method_3_code 122 = .ok (.getstatic 53, 3) := by decide +kernel
theorem d2_125 : decode method_3_code 125 = .ok (.areturn, 1) := by decide +kernel
theorem d2_126 : decode method_3_code 126 = .ok (.getstatic 56, 3) := by decide +kernel
theorem d2_129 : decode method_3_code 129 = .ok (.areturn, 1) := by decide +kernel
theorem pn_2 : plainFor (⟨"com/example/locktop/locktop/view/KeyTypedPinLaw", "expected", "(I)Lcom/example/locktop/locktop/view/Key;"⟩ : MethodName) = true := by first | exact plainFor_of_name (by first | (simp [plainName, overriddenIn]; done) | decide +kernel) | decide +kernel
set_option maxRecDepth 65536 in
set_option maxHeartbeats 40000000 in
theorem c_exp (l : Launch) (Z : State) (a0 : Array Value) (hw : ∀ d ∈ tables_1, d.before a0 Z = true) (a_OTHER a_ENTER a_YES a_FIRST a_CANCEL a_PREVIOUS a_DOWN a_LAST a_QUIT a_TERMINATE a_UP a_MOST_WAITING a_NEXT : Addr) (k1 : Int32) (h0 : Heap) (B : own_B Z h0 a_OTHER a_ENTER a_YES a_FIRST a_CANCEL a_PREVIOUS a_DOWN a_LAST a_QUIT a_TERMINATE a_UP a_MOST_WAITING a_NEXT) :
    own_M l Z (⟨"com/example/locktop/locktop/view/KeyTypedPinLaw", "expected", "(I)Lcom/example/locktop/locktop/view/Key;"⟩ : MethodName) method_3_code 1 (some (.object "com/example/locktop/locktop/view/Key")) ⟨0, 0, 0, 0⟩ #[.int k1] h0 (fun v h L => v = some (.ref (own_exp a_OTHER a_ENTER a_YES a_FIRST a_CANCEL a_PREVIOUS a_DOWN a_LAST a_QUIT a_TERMINATE a_UP a_MOST_WAITING a_NEXT k1)) ∧ L = [] ∧ h = h0) := by
  refine own_body pn_2 ?_
  intro p e s m below meth c T0 hx hby hml hlk hown hret hnm hZ X0 e0
  replace hown : s.vm.findClass "com/example/locktop/locktop/view/KeyTypedPinLaw" = some m.cls := hown
  replace hml : c.maxLocals = 1 := hml
  obtain ⟨S_OTHER, E_OTHER, S_ENTER, E_ENTER, S_YES, E_YES, S_FIRST, E_FIRST, S_CANCEL, E_CANCEL, S_PREVIOUS, E_PREVIOUS, S_DOWN, E_DOWN, S_LAST, E_LAST, S_QUIT, E_QUIT, S_TERMINATE, E_TERMINATE, S_UP, E_UP, S_MOST_WAITING, E_MOST_WAITING, S_NEXT, E_NEXT⟩ := id B
  have ef : entryFrame m #[.int k1] 1 = (mkF m 0 #[.val (.int k1)] []) := by first | (simp [entryFrame, mkF, argsToLocals, Value.category]; done) | rfl
  rw [ef]
  refine own_go (fun t k => XS.iloadN X0.here hx rfl (hb hby d2_0) rfl k) ?_
  show own_G p e below _ T0 (mkF m 1 #[.val (.int k1)] [(.int k1)])
  refine own_go (fun t k => XS.bipush X0.here hx rfl (hb hby d2_1) k) ?_
  show own_G p e below _ T0 (mkF m 3 #[.val (.int k1)] [(.int (107 : Int32)), (.int k1)])
  by_cases hc1 : k1 = (107 : Int32)
  ·
    refine own_go (fun t k => XS.icmpNo X0.here hx rfl (hb hby d2_3) rfl (Jvm.Free.XT.ii_ne_f hc1) k) ?_
    show own_G p e below _ T0 (mkF m 6 #[.val (.int k1)] [])
    obtain ⟨T2, X2, e2, st2⟩ := getS X0 hx hZ hown (host := "") (hw _ (List.mem_of_getElem? (i := 41) rfl)) Via.refl e0 S_UP (g := (mkF m 6 #[.val (.int k1)] [])) rfl (hb hby d2_6)
    refine own_go st2 ?_
    show own_G p e below _ T2 (mkF m 9 #[.val (.int k1)] [(.ref a_UP)])
    exact own_retA X2 hx hlk hret rfl rfl (hb hby d2_9) (by decide) (by decide) ⟨congrArg some (congrArg Value.ref (Eq.symm (show (own_exp a_OTHER a_ENTER a_YES a_FIRST a_CANCEL a_PREVIOUS a_DOWN a_LAST a_QUIT a_TERMINATE a_UP a_MOST_WAITING a_NEXT k1) = a_UP from (by unfold own_exp; rw [if_pos hc1])))), rfl, e2⟩
  ·
    refine own_go (fun t k => XS.icmpYes X0.here hx rfl (pc0 := 3) (pc' := 10) rfl (hb hby d2_3) rfl (Jvm.Free.XT.ii_ne_t hc1) (by decide) (by decide) k) ?_
    show own_G p e below _ T0 (mkF m 10 #[.val (.int k1)] [])
    refine own_go (fun t k => XS.iloadN X0.here hx rfl (hb hby d2_10) rfl k) ?_
    show own_G p e below _ T0 (mkF m 11 #[.val (.int k1)] [(.int k1)])
    refine own_go (fun t k => XS.bipush X0.here hx rfl (hb hby d2_11) k) ?_
    show own_G p e below _ T0 (mkF m 13 #[.val (.int k1)] [(.int (106 : Int32)), (.int k1)])
    by_cases hc3 : k1 = (106 : Int32)
    ·
      refine own_go (fun t k => XS.icmpNo X0.here hx rfl (hb hby d2_13) rfl (Jvm.Free.XT.ii_ne_f hc3) k) ?_
      show own_G p e below _ T0 (mkF m 16 #[.val (.int k1)] [])
      obtain ⟨T4, X4, e4, st4⟩ := getS X0 hx hZ hown (host := "") (hw _ (List.mem_of_getElem? (i := 29) rfl)) Via.refl e0 S_DOWN (g := (mkF m 16 #[.val (.int k1)] [])) rfl (hb hby d2_16)
      refine own_go st4 ?_
      show own_G p e below _ T4 (mkF m 19 #[.val (.int k1)] [(.ref a_DOWN)])
      exact own_retA X4 hx hlk hret rfl rfl (hb hby d2_19) (by decide) (by decide) ⟨congrArg some (congrArg Value.ref (Eq.symm (show (own_exp a_OTHER a_ENTER a_YES a_FIRST a_CANCEL a_PREVIOUS a_DOWN a_LAST a_QUIT a_TERMINATE a_UP a_MOST_WAITING a_NEXT k1) = a_DOWN from (by unfold own_exp; rw [if_neg hc1, if_pos hc3])))), rfl, e4⟩
    ·
      refine own_go (fun t k => XS.icmpYes X0.here hx rfl (pc0 := 13) (pc' := 20) rfl (hb hby d2_13) rfl (Jvm.Free.XT.ii_ne_t hc3) (by decide) (by decide) k) ?_
      show own_G p e below _ T0 (mkF m 20 #[.val (.int k1)] [])
      refine own_go (fun t k => XS.iloadN X0.here hx rfl (hb hby d2_20) rfl k) ?_
      show own_G p e below _ T0 (mkF m 21 #[.val (.int k1)] [(.int k1)])
      refine own_go (fun t k => XS.bipush X0.here hx rfl (hb hby d2_21) k) ?_
      show own_G p e below _ T0 (mkF m 23 #[.val (.int k1)] [(.int (13 : Int32)), (.int k1)])
      by_cases hc5 : k1 = (13 : Int32)
      ·
        refine own_go (fun t k => XS.icmpYes X0.here hx rfl (pc0 := 23) (pc' := 32) rfl (hb hby d2_23) rfl (Jvm.Free.XT.ii_eq_t hc5) (by decide) (by decide) k) ?_
        show own_G p e below _ T0 (mkF m 32 #[.val (.int k1)] [])
        obtain ⟨T6, X6, e6, st6⟩ := getS X0 hx hZ hown (host := "") (hw _ (List.mem_of_getElem? (i := 14) rfl)) Via.refl e0 S_ENTER (g := (mkF m 32 #[.val (.int k1)] [])) rfl (hb hby d2_32)
        refine own_go st6 ?_
        show own_G p e below _ T6 (mkF m 35 #[.val (.int k1)] [(.ref a_ENTER)])
        exact own_retA X6 hx hlk hret rfl rfl (hb hby d2_35) (by decide) (by decide) ⟨congrArg some (congrArg Value.ref (Eq.symm (show (own_exp a_OTHER a_ENTER a_YES a_FIRST a_CANCEL a_PREVIOUS a_DOWN a_LAST a_QUIT a_TERMINATE a_UP a_MOST_WAITING a_NEXT k1) = a_ENTER from (by unfold own_exp; rw [if_neg hc1, if_neg hc3, if_pos hc5])))), rfl, e6⟩
      ·
        refine own_go (fun t k => XS.icmpNo X0.here hx rfl (hb hby d2_23) rfl (Jvm.Free.XT.ii_eq_f hc5) k) ?_
        show own_G p e below _ T0 (mkF m 26 #[.val (.int k1)] [])
        refine own_go (fun t k => XS.iloadN X0.here hx rfl (hb hby d2_26) rfl k) ?_
        show own_G p e below _ T0 (mkF m 27 #[.val (.int k1)] [(.int k1)])
        refine own_go (fun t k => XS.bipush X0.here hx rfl (hb hby d2_27) k) ?_
        show own_G p e below _ T0 (mkF m 29 #[.val (.int k1)] [(.int (10 : Int32)), (.int k1)])
        by_cases hc7 : k1 = (10 : Int32)
        ·
          refine own_go (fun t k => XS.icmpNo X0.here hx rfl (hb hby d2_29) rfl (Jvm.Free.XT.ii_ne_f hc7) k) ?_
          show own_G p e below _ T0 (mkF m 32 #[.val (.int k1)] [])
          obtain ⟨T8, X8, e8, st8⟩ := getS X0 hx hZ hown (host := "") (hw _ (List.mem_of_getElem? (i := 14) rfl)) Via.refl e0 S_ENTER (g := (mkF m 32 #[.val (.int k1)] [])) rfl (hb hby d2_32)
          refine own_go st8 ?_
          show own_G p e below _ T8 (mkF m 35 #[.val (.int k1)] [(.ref a_ENTER)])
          exact own_retA X8 hx hlk hret rfl rfl (hb hby d2_35) (by decide) (by decide) ⟨congrArg some (congrArg Value.ref (Eq.symm (show (own_exp a_OTHER a_ENTER a_YES a_FIRST a_CANCEL a_PREVIOUS a_DOWN a_LAST a_QUIT a_TERMINATE a_UP a_MOST_WAITING a_NEXT k1) = a_ENTER from (by unfold own_exp; rw [if_neg hc1, if_neg hc3, if_neg hc5, if_pos hc7])))), rfl, e8⟩
        ·
          refine own_go (fun t k => XS.icmpYes X0.here hx rfl (pc0 := 29) (pc' := 36) rfl (hb hby d2_29) rfl (Jvm.Free.XT.ii_ne_t hc7) (by decide) (by decide) k) ?_
          show own_G p e below _ T0 (mkF m 36 #[.val (.int k1)] [])
          refine own_go (fun t k => XS.iloadN X0.here hx rfl (hb hby d2_36) rfl k) ?_
          show own_G p e below _ T0 (mkF m 37 #[.val (.int k1)] [(.int k1)])
          refine own_go (fun t k => XS.bipush X0.here hx rfl (hb hby d2_37) k) ?_
          show own_G p e below _ T0 (mkF m 39 #[.val (.int k1)] [(.int (99 : Int32)), (.int k1)])
          by_cases hc9 : k1 = (99 : Int32)
          ·
            refine own_go (fun t k => XS.icmpNo X0.here hx rfl (hb hby d2_39) rfl (Jvm.Free.XT.ii_ne_f hc9) k) ?_
            show own_G p e below _ T0 (mkF m 42 #[.val (.int k1)] [])
            obtain ⟨T10, X10, e10, st10⟩ := getS X0 hx hZ hown (host := "") (hw _ (List.mem_of_getElem? (i := 23) rfl)) Via.refl e0 S_CANCEL (g := (mkF m 42 #[.val (.int k1)] [])) rfl (hb hby d2_42)
            refine own_go st10 ?_
            show own_G p e below _ T10 (mkF m 45 #[.val (.int k1)] [(.ref a_CANCEL)])
            exact own_retA X10 hx hlk hret rfl rfl (hb hby d2_45) (by decide) (by decide) ⟨congrArg some (congrArg Value.ref (Eq.symm (show (own_exp a_OTHER a_ENTER a_YES a_FIRST a_CANCEL a_PREVIOUS a_DOWN a_LAST a_QUIT a_TERMINATE a_UP a_MOST_WAITING a_NEXT k1) = a_CANCEL from (by unfold own_exp; rw [if_neg hc1, if_neg hc3, if_neg hc5, if_neg hc7, if_pos hc9])))), rfl, e10⟩
          ·
            refine own_go (fun t k => XS.icmpYes X0.here hx rfl (pc0 := 39) (pc' := 46) rfl (hb hby d2_39) rfl (Jvm.Free.XT.ii_ne_t hc9) (by decide) (by decide) k) ?_
            show own_G p e below _ T0 (mkF m 46 #[.val (.int k1)] [])
            refine own_go (fun t k => XS.iloadN X0.here hx rfl (hb hby d2_46) rfl k) ?_
            show own_G p e below _ T0 (mkF m 47 #[.val (.int k1)] [(.int k1)])
            refine own_go (fun t k => XS.bipush X0.here hx rfl (hb hby d2_47) k) ?_
            show own_G p e below _ T0 (mkF m 49 #[.val (.int k1)] [(.int (75 : Int32)), (.int k1)])
            by_cases hc11 : k1 = (75 : Int32)
            ·
              refine own_go (fun t k => XS.icmpNo X0.here hx rfl (hb hby d2_49) rfl (Jvm.Free.XT.ii_ne_f hc11) k) ?_
              show own_G p e below _ T0 (mkF m 52 #[.val (.int k1)] [])
              obtain ⟨T12, X12, e12, st12⟩ := getS X0 hx hZ hown (host := "") (hw _ (List.mem_of_getElem? (i := 38) rfl)) Via.refl e0 S_TERMINATE (g := (mkF m 52 #[.val (.int k1)] [])) rfl (hb hby d2_52)
              refine own_go st12 ?_
              show own_G p e below _ T12 (mkF m 55 #[.val (.int k1)] [(.ref a_TERMINATE)])
              exact own_retA X12 hx hlk hret rfl rfl (hb hby d2_55) (by decide) (by decide) ⟨congrArg some (congrArg Value.ref (Eq.symm (show (own_exp a_OTHER a_ENTER a_YES a_FIRST a_CANCEL a_PREVIOUS a_DOWN a_LAST a_QUIT a_TERMINATE a_UP a_MOST_WAITING a_NEXT k1) = a_TERMINATE from (by unfold own_exp; rw [if_neg hc1, if_neg hc3, if_neg hc5, if_neg hc7, if_neg hc9, if_pos hc11])))), rfl, e12⟩
            ·
              refine own_go (fun t k => XS.icmpYes X0.here hx rfl (pc0 := 49) (pc' := 56) rfl (hb hby d2_49) rfl (Jvm.Free.XT.ii_ne_t hc11) (by decide) (by decide) k) ?_
              show own_G p e below _ T0 (mkF m 56 #[.val (.int k1)] [])
              refine own_go (fun t k => XS.iloadN X0.here hx rfl (hb hby d2_56) rfl k) ?_
              show own_G p e below _ T0 (mkF m 57 #[.val (.int k1)] [(.int k1)])
              refine own_go (fun t k => XS.bipush X0.here hx rfl (hb hby d2_57) k) ?_
              show own_G p e below _ T0 (mkF m 59 #[.val (.int k1)] [(.int (121 : Int32)), (.int k1)])
              by_cases hc13 : k1 = (121 : Int32)
              ·
                refine own_go (fun t k => XS.icmpNo X0.here hx rfl (hb hby d2_59) rfl (Jvm.Free.XT.ii_ne_f hc13) k) ?_
                show own_G p e below _ T0 (mkF m 62 #[.val (.int k1)] [])
                obtain ⟨T14, X14, e14, st14⟩ := getS X0 hx hZ hown (host := "") (hw _ (List.mem_of_getElem? (i := 17) rfl)) Via.refl e0 S_YES (g := (mkF m 62 #[.val (.int k1)] [])) rfl (hb hby d2_62)
                refine own_go st14 ?_
                show own_G p e below _ T14 (mkF m 65 #[.val (.int k1)] [(.ref a_YES)])
                exact own_retA X14 hx hlk hret rfl rfl (hb hby d2_65) (by decide) (by decide) ⟨congrArg some (congrArg Value.ref (Eq.symm (show (own_exp a_OTHER a_ENTER a_YES a_FIRST a_CANCEL a_PREVIOUS a_DOWN a_LAST a_QUIT a_TERMINATE a_UP a_MOST_WAITING a_NEXT k1) = a_YES from (by unfold own_exp; rw [if_neg hc1, if_neg hc3, if_neg hc5, if_neg hc7, if_neg hc9, if_neg hc11, if_pos hc13])))), rfl, e14⟩
              ·
                refine own_go (fun t k => XS.icmpYes X0.here hx rfl (pc0 := 59) (pc' := 66) rfl (hb hby d2_59) rfl (Jvm.Free.XT.ii_ne_t hc13) (by decide) (by decide) k) ?_
                show own_G p e below _ T0 (mkF m 66 #[.val (.int k1)] [])
                refine own_go (fun t k => XS.iloadN X0.here hx rfl (hb hby d2_66) rfl k) ?_
                show own_G p e below _ T0 (mkF m 67 #[.val (.int k1)] [(.int k1)])
                refine own_go (fun t k => XS.bipush X0.here hx rfl (hb hby d2_67) k) ?_
                show own_G p e below _ T0 (mkF m 69 #[.val (.int k1)] [(.int (113 : Int32)), (.int k1)])
                by_cases hc15 : k1 = (113 : Int32)
                ·
                  refine own_go (fun t k => XS.icmpNo X0.here hx rfl (hb hby d2_69) rfl (Jvm.Free.XT.ii_ne_f hc15) k) ?_
                  show own_G p e below _ T0 (mkF m 72 #[.val (.int k1)] [])
                  obtain ⟨T16, X16, e16, st16⟩ := getS X0 hx hZ hown (host := "") (hw _ (List.mem_of_getElem? (i := 35) rfl)) Via.refl e0 S_QUIT (g := (mkF m 72 #[.val (.int k1)] [])) rfl (hb hby d2_72)
                  refine own_go st16 ?_
                  show own_G p e below _ T16 (mkF m 75 #[.val (.int k1)] [(.ref a_QUIT)])
                  exact own_retA X16 hx hlk hret rfl rfl (hb hby d2_75) (by decide) (by decide) ⟨congrArg some (congrArg Value.ref (Eq.symm (show (own_exp a_OTHER a_ENTER a_YES a_FIRST a_CANCEL a_PREVIOUS a_DOWN a_LAST a_QUIT a_TERMINATE a_UP a_MOST_WAITING a_NEXT k1) = a_QUIT from (by unfold own_exp; rw [if_neg hc1, if_neg hc3, if_neg hc5, if_neg hc7, if_neg hc9, if_neg hc11, if_neg hc13, if_pos hc15])))), rfl, e16⟩
                ·
                  refine own_go (fun t k => XS.icmpYes X0.here hx rfl (pc0 := 69) (pc' := 76) rfl (hb hby d2_69) rfl (Jvm.Free.XT.ii_ne_t hc15) (by decide) (by decide) k) ?_
                  show own_G p e below _ T0 (mkF m 76 #[.val (.int k1)] [])
                  refine own_go (fun t k => XS.iloadN X0.here hx rfl (hb hby d2_76) rfl k) ?_
                  show own_G p e below _ T0 (mkF m 77 #[.val (.int k1)] [(.int k1)])
                  refine own_go (fun t k => XS.bipush X0.here hx rfl (hb hby d2_77) k) ?_
                  show own_G p e below _ T0 (mkF m 79 #[.val (.int k1)] [(.int (104 : Int32)), (.int k1)])
                  by_cases hc17 : k1 = (104 : Int32)
                  ·
                    refine own_go (fun t k => XS.icmpNo X0.here hx rfl (hb hby d2_79) rfl (Jvm.Free.XT.ii_ne_f hc17) k) ?_
                    show own_G p e below _ T0 (mkF m 82 #[.val (.int k1)] [])
                    obtain ⟨T18, X18, e18, st18⟩ := getS X0 hx hZ hown (host := "") (hw _ (List.mem_of_getElem? (i := 26) rfl)) Via.refl e0 S_PREVIOUS (g := (mkF m 82 #[.val (.int k1)] [])) rfl (hb hby d2_82)
                    refine own_go st18 ?_
                    show own_G p e below _ T18 (mkF m 85 #[.val (.int k1)] [(.ref a_PREVIOUS)])
                    exact own_retA X18 hx hlk hret rfl rfl (hb hby d2_85) (by decide) (by decide) ⟨congrArg some (congrArg Value.ref (Eq.symm (show (own_exp a_OTHER a_ENTER a_YES a_FIRST a_CANCEL a_PREVIOUS a_DOWN a_LAST a_QUIT a_TERMINATE a_UP a_MOST_WAITING a_NEXT k1) = a_PREVIOUS from (by unfold own_exp; rw [if_neg hc1, if_neg hc3, if_neg hc5, if_neg hc7, if_neg hc9, if_neg hc11, if_neg hc13, if_neg hc15, if_pos hc17])))), rfl, e18⟩
                  ·
                    refine own_go (fun t k => XS.icmpYes X0.here hx rfl (pc0 := 79) (pc' := 86) rfl (hb hby d2_79) rfl (Jvm.Free.XT.ii_ne_t hc17) (by decide) (by decide) k) ?_
                    show own_G p e below _ T0 (mkF m 86 #[.val (.int k1)] [])
                    refine own_go (fun t k => XS.iloadN X0.here hx rfl (hb hby d2_86) rfl k) ?_
                    show own_G p e below _ T0 (mkF m 87 #[.val (.int k1)] [(.int k1)])
                    refine own_go (fun t k => XS.bipush X0.here hx rfl (hb hby d2_87) k) ?_
                    show own_G p e below _ T0 (mkF m 89 #[.val (.int k1)] [(.int (108 : Int32)), (.int k1)])
                    by_cases hc19 : k1 = (108 : Int32)
                    ·
                      refine own_go (fun t k => XS.icmpNo X0.here hx rfl (hb hby d2_89) rfl (Jvm.Free.XT.ii_ne_f hc19) k) ?_
                      show own_G p e below _ T0 (mkF m 92 #[.val (.int k1)] [])
                      obtain ⟨T20, X20, e20, st20⟩ := getS X0 hx hZ hown (host := "") (hw _ (List.mem_of_getElem? (i := 47) rfl)) Via.refl e0 S_NEXT (g := (mkF m 92 #[.val (.int k1)] [])) rfl (hb hby d2_92)
                      refine own_go st20 ?_
                      show own_G p e below _ T20 (mkF m 95 #[.val (.int k1)] [(.ref a_NEXT)])
                      exact own_retA X20 hx hlk hret rfl rfl (hb hby d2_95) (by decide) (by decide) ⟨congrArg some (congrArg Value.ref (Eq.symm (show (own_exp a_OTHER a_ENTER a_YES a_FIRST a_CANCEL a_PREVIOUS a_DOWN a_LAST a_QUIT a_TERMINATE a_UP a_MOST_WAITING a_NEXT k1) = a_NEXT from (by unfold own_exp; rw [if_neg hc1, if_neg hc3, if_neg hc5, if_neg hc7, if_neg hc9, if_neg hc11, if_neg hc13, if_neg hc15, if_neg hc17, if_pos hc19])))), rfl, e20⟩
                    ·
                      refine own_go (fun t k => XS.icmpYes X0.here hx rfl (pc0 := 89) (pc' := 96) rfl (hb hby d2_89) rfl (Jvm.Free.XT.ii_ne_t hc19) (by decide) (by decide) k) ?_
                      show own_G p e below _ T0 (mkF m 96 #[.val (.int k1)] [])
                      refine own_go (fun t k => XS.iloadN X0.here hx rfl (hb hby d2_96) rfl k) ?_
                      show own_G p e below _ T0 (mkF m 97 #[.val (.int k1)] [(.int k1)])
                      refine own_go (fun t k => XS.bipush X0.here hx rfl (hb hby d2_97) k) ?_
                      show own_G p e below _ T0 (mkF m 99 #[.val (.int k1)] [(.int (103 : Int32)), (.int k1)])
                      by_cases hc21 : k1 = (103 : Int32)
                      ·
                        refine own_go (fun t k => XS.icmpNo X0.here hx rfl (hb hby d2_99) rfl (Jvm.Free.XT.ii_ne_f hc21) k) ?_
                        show own_G p e below _ T0 (mkF m 102 #[.val (.int k1)] [])
                        obtain ⟨T22, X22, e22, st22⟩ := getS X0 hx hZ hown (host := "") (hw _ (List.mem_of_getElem? (i := 20) rfl)) Via.refl e0 S_FIRST (g := (mkF m 102 #[.val (.int k1)] [])) rfl (hb hby d2_102)
                        refine own_go st22 ?_
                        show own_G p e below _ T22 (mkF m 105 #[.val (.int k1)] [(.ref a_FIRST)])
                        exact own_retA X22 hx hlk hret rfl rfl (hb hby d2_105) (by decide) (by decide) ⟨congrArg some (congrArg Value.ref (Eq.symm (show (own_exp a_OTHER a_ENTER a_YES a_FIRST a_CANCEL a_PREVIOUS a_DOWN a_LAST a_QUIT a_TERMINATE a_UP a_MOST_WAITING a_NEXT k1) = a_FIRST from (by unfold own_exp; rw [if_neg hc1, if_neg hc3, if_neg hc5, if_neg hc7, if_neg hc9, if_neg hc11, if_neg hc13, if_neg hc15, if_neg hc17, if_neg hc19, if_pos hc21])))), rfl, e22⟩
                      ·
                        refine own_go (fun t k => XS.icmpYes X0.here hx rfl (pc0 := 99) (pc' := 106) rfl (hb hby d2_99) rfl (Jvm.Free.XT.ii_ne_t hc21) (by decide) (by decide) k) ?_
                        show own_G p e below _ T0 (mkF m 106 #[.val (.int k1)] [])
                        refine own_go (fun t k => XS.iloadN X0.here hx rfl (hb hby d2_106) rfl k) ?_
                        show own_G p e below _ T0 (mkF m 107 #[.val (.int k1)] [(.int k1)])
                        refine own_go (fun t k => XS.bipush X0.here hx rfl (hb hby d2_107) k) ?_
                        show own_G p e below _ T0 (mkF m 109 #[.val (.int k1)] [(.int (71 : Int32)), (.int k1)])
                        by_cases hc23 : k1 = (71 : Int32)
                        ·
                          refine own_go (fun t k => XS.icmpNo X0.here hx rfl (hb hby d2_109) rfl (Jvm.Free.XT.ii_ne_f hc23) k) ?_
                          show own_G p e below _ T0 (mkF m 112 #[.val (.int k1)] [])
                          obtain ⟨T24, X24, e24, st24⟩ := getS X0 hx hZ hown (host := "") (hw _ (List.mem_of_getElem? (i := 32) rfl)) Via.refl e0 S_LAST (g := (mkF m 112 #[.val (.int k1)] [])) rfl (hb hby d2_112)
                          refine own_go st24 ?_
                          show own_G p e below _ T24 (mkF m 115 #[.val (.int k1)] [(.ref a_LAST)])
                          exact own_retA X24 hx hlk hret rfl rfl (hb hby d2_115) (by decide) (by decide) ⟨congrArg some (congrArg Value.ref (Eq.symm (show (own_exp a_OTHER a_ENTER a_YES a_FIRST a_CANCEL a_PREVIOUS a_DOWN a_LAST a_QUIT a_TERMINATE a_UP a_MOST_WAITING a_NEXT k1) = a_LAST from (by unfold own_exp; rw [if_neg hc1, if_neg hc3, if_neg hc5, if_neg hc7, if_neg hc9, if_neg hc11, if_neg hc13, if_neg hc15, if_neg hc17, if_neg hc19, if_neg hc21, if_pos hc23])))), rfl, e24⟩
                        ·
                          refine own_go (fun t k => XS.icmpYes X0.here hx rfl (pc0 := 109) (pc' := 116) rfl (hb hby d2_109) rfl (Jvm.Free.XT.ii_ne_t hc23) (by decide) (by decide) k) ?_
                          show own_G p e below _ T0 (mkF m 116 #[.val (.int k1)] [])
                          refine own_go (fun t k => XS.iloadN X0.here hx rfl (hb hby d2_116) rfl k) ?_
                          show own_G p e below _ T0 (mkF m 117 #[.val (.int k1)] [(.int k1)])
                          refine own_go (fun t k => XS.bipush X0.here hx rfl (hb hby d2_117) k) ?_
                          show own_G p e below _ T0 (mkF m 119 #[.val (.int k1)] [(.int (119 : Int32)), (.int k1)])
                          by_cases hc25 : k1 = (119 : Int32)
                          ·
                            refine own_go (fun t k => XS.icmpNo X0.here hx rfl (hb hby d2_119) rfl (Jvm.Free.XT.ii_ne_f hc25) k) ?_
                            show own_G p e below _ T0 (mkF m 122 #[.val (.int k1)] [])
                            obtain ⟨T26, X26, e26, st26⟩ := getS X0 hx hZ hown (host := "") (hw _ (List.mem_of_getElem? (i := 44) rfl)) Via.refl e0 S_MOST_WAITING (g := (mkF m 122 #[.val (.int k1)] [])) rfl (hb hby d2_122)
                            refine own_go st26 ?_
                            show own_G p e below _ T26 (mkF m 125 #[.val (.int k1)] [(.ref a_MOST_WAITING)])
                            exact own_retA X26 hx hlk hret rfl rfl (hb hby d2_125) (by decide) (by decide) ⟨congrArg some (congrArg Value.ref (Eq.symm (show (own_exp a_OTHER a_ENTER a_YES a_FIRST a_CANCEL a_PREVIOUS a_DOWN a_LAST a_QUIT a_TERMINATE a_UP a_MOST_WAITING a_NEXT k1) = a_MOST_WAITING from (by unfold own_exp; rw [if_neg hc1, if_neg hc3, if_neg hc5, if_neg hc7, if_neg hc9, if_neg hc11, if_neg hc13, if_neg hc15, if_neg hc17, if_neg hc19, if_neg hc21, if_neg hc23, if_pos hc25])))), rfl, e26⟩
                          ·
                            refine own_go (fun t k => XS.icmpYes X0.here hx rfl (pc0 := 119) (pc' := 126) rfl (hb hby d2_119) rfl (Jvm.Free.XT.ii_ne_t hc25) (by decide) (by decide) k) ?_
                            show own_G p e below _ T0 (mkF m 126 #[.val (.int k1)] [])
                            obtain ⟨T27, X27, e27, st27⟩ := getS X0 hx hZ hown (host := "") (hw _ (List.mem_of_getElem? (i := 10) rfl)) Via.refl e0 S_OTHER (g := (mkF m 126 #[.val (.int k1)] [])) rfl (hb hby d2_126)
                            refine own_go st27 ?_
                            show own_G p e below _ T27 (mkF m 129 #[.val (.int k1)] [(.ref a_OTHER)])
                            exact own_retA X27 hx hlk hret rfl rfl (hb hby d2_129) (by decide) (by decide) ⟨congrArg some (congrArg Value.ref (Eq.symm (show (own_exp a_OTHER a_ENTER a_YES a_FIRST a_CANCEL a_PREVIOUS a_DOWN a_LAST a_QUIT a_TERMINATE a_UP a_MOST_WAITING a_NEXT k1) = a_OTHER from (by unfold own_exp; rw [if_neg hc1, if_neg hc3, if_neg hc5, if_neg hc7, if_neg hc9, if_neg hc11, if_neg hc13, if_neg hc15, if_neg hc17, if_neg hc19, if_neg hc21, if_neg hc23, if_neg hc25])))), rfl, e27⟩
theorem own_same (a_OTHER a_ENTER a_YES a_FIRST a_CANCEL a_PREVIOUS a_DOWN a_LAST a_QUIT a_TERMINATE a_UP a_MOST_WAITING a_NEXT : Addr) (k : Int32) : own_typed a_OTHER a_ENTER a_YES a_FIRST a_CANCEL a_PREVIOUS a_DOWN a_LAST a_QUIT a_TERMINATE a_UP a_MOST_WAITING a_NEXT k = own_exp a_OTHER a_ENTER a_YES a_FIRST a_CANCEL a_PREVIOUS a_DOWN a_LAST a_QUIT a_TERMINATE a_UP a_MOST_WAITING a_NEXT k := by
  by_cases h0 : k = (10 : Int32)
  · subst h0; rfl
  by_cases h1 : k = (13 : Int32)
  · subst h1; rfl
  by_cases h2 : k = (71 : Int32)
  · subst h2; rfl
  by_cases h3 : k = (75 : Int32)
  · subst h3; rfl
  by_cases h4 : k = (99 : Int32)
  · subst h4; rfl
  by_cases h5 : k = (103 : Int32)
  · subst h5; rfl
  by_cases h6 : k = (104 : Int32)
  · subst h6; rfl
  by_cases h7 : k = (106 : Int32)
  · subst h7; rfl
  by_cases h8 : k = (107 : Int32)
  · subst h8; rfl
  by_cases h9 : k = (108 : Int32)
  · subst h9; rfl
  by_cases h10 : k = (113 : Int32)
  · subst h10; rfl
  by_cases h11 : k = (119 : Int32)
  · subst h11; rfl
  by_cases h12 : k = (121 : Int32)
  · subst h12; rfl
  simp [own_typed, own_exp, h0, h1, h2, h3, h4, h5, h6, h7, h8, h9, h10, h11, h12]
theorem pn_0 : plainFor x = true := by first | exact plainFor_of_name (by first | (simp [plainName, overriddenIn]; done) | decide +kernel) | decide +kernel
set_option maxRecDepth 65536 in
set_option maxHeartbeats 40000000 in
theorem rm0 (l : Launch) (Z : State) (a0 : Array Value) (hw : ∀ d ∈ tables_1, d.before a0 Z = true) (i0 i1 : Int32) (a_OTHER a_ENTER a_YES a_FIRST a_CANCEL a_PREVIOUS a_DOWN a_LAST a_QUIT a_TERMINATE a_UP a_MOST_WAITING a_NEXT : Addr) (h0 : Heap) (n0 : Nat) (Z0 : n0 ≤ h0.size) (B : own_B Z h0 a_OTHER a_ENTER a_YES a_FIRST a_CANCEL a_PREVIOUS a_DOWN a_LAST a_QUIT a_TERMINATE a_UP a_MOST_WAITING a_NEXT) :
    own_M l Z x code maxLocals ret room_1 #[.int i0, .int i1] h0 (fun v h L => v = some (.int 1) ∧ Fr n0 L) := by
  refine own_body pn_0 ?_
  intro p e s m below meth c T0 hx hby hml hlk hown hret hnm hZ X0 e0
  replace hown : s.vm.findClass "com/example/locktop/locktop/view/KeyTypedPinLaw" = some m.cls := hown
  replace hml : c.maxLocals = 4 := hml
  replace hret : meth.sig.returnType = some .boolean := hret
  obtain ⟨S_OTHER, E_OTHER, S_ENTER, E_ENTER, S_YES, E_YES, S_FIRST, E_FIRST, S_CANCEL, E_CANCEL, S_PREVIOUS, E_PREVIOUS, S_DOWN, E_DOWN, S_LAST, E_LAST, S_QUIT, E_QUIT, S_TERMINATE, E_TERMINATE, S_UP, E_UP, S_MOST_WAITING, E_MOST_WAITING, S_NEXT, E_NEXT⟩ := id B
  have N0 := Fr.nil n0
  have ef : entryFrame m #[.int i0, .int i1] maxLocals = (mkF m 0 #[.val (.int i0), .val (.int i1), .unset, .unset] []) := by first | (simp [entryFrame, mkF, argsToLocals, Value.category, maxLocals]; done) | rfl
  rw [ef]
  refine own_go (fun t k => XS.iloadN X0.here hx rfl (hb hby at_0) rfl k) ?_
  show own_G p e below _ T0 (mkF m 1 #[.val (.int i0), .val (.int i1), .unset, .unset] [(.int i0)])
  refine own_go (fun t k => XS.iconst X0.here hx rfl (hb hby at_1) k) ?_
  show own_G p e below _ T0 (mkF m 2 #[.val (.int i0), .val (.int i1), .unset, .unset] [(.int (3 : Int32)), (.int i0)])
  refine own_go (fun t k => XS.iand X0.here hx rfl (hb hby at_2) rfl k) ?_
  show own_G p e below _ T0 (mkF m 3 #[.val (.int i0), .val (.int i1), .unset, .unset] [(.int (i0 &&& (3 : Int32)))])
  refine own_go (fun t k => XS.istoreN X0.here hx rfl (hb hby at_3) rfl (l' := #[.val (.int i0), .val (.int i1), .val (.int (i0 &&& (3 : Int32))), .unset]) rfl k) ?_
  show own_G p e below _ T0 (mkF m 4 #[.val (.int i0), .val (.int i1), .val (.int (i0 &&& (3 : Int32))), .unset] [])
  refine own_go (fun t k => XS.iloadN X0.here hx rfl (hb hby at_4) rfl k) ?_
  show own_G p e below _ T0 (mkF m 5 #[.val (.int i0), .val (.int i1), .val (.int (i0 &&& (3 : Int32))), .unset] [(.int (i0 &&& (3 : Int32)))])
  by_cases hc1 : (i0 &&& (3 : Int32)) = (0 : Int32)
  ·
    refine own_go (fun t k => XS.ifNo X0.here hx rfl (hb hby at_5) rfl (Jvm.Free.XT.i0_ne_f hc1) k) ?_
    show own_G p e below _ T0 (mkF m 8 #[.val (.int i0), .val (.int i1), .val (.int (i0 &&& (3 : Int32))), .unset] [])
    refine own_go (fun t k => XS.iloadN X0.here hx rfl (hb hby at_8) rfl k) ?_
    show own_G p e below _ T0 (mkF m 9 #[.val (.int i0), .val (.int i1), .val (.int (i0 &&& (3 : Int32))), .unset] [(.int i1)])
    refine own_go (fun t k => XS.istoreN X0.here hx rfl (hb hby at_9) rfl (l' := #[.val (.int i0), .val (.int i1), .val (.int (i0 &&& (3 : Int32))), .val (.int i1)]) rfl k) ?_
    show own_G p e below _ T0 (mkF m 10 #[.val (.int i0), .val (.int i1), .val (.int (i0 &&& (3 : Int32))), .val (.int i1)] [])
    refine own_go (fun t k => XS.goto X0.here hx rfl (pc0 := 10) (pc' := 53) rfl (hb hby at_10) (by decide) (by decide) k) ?_
    show own_G p e below _ T0 (mkF m 53 #[.val (.int i0), .val (.int i1), .val (.int (i0 &&& (3 : Int32))), .val (.int i1)] [])
    refine own_go (fun t k => XS.iloadN X0.here hx rfl (hb hby at_53) rfl k) ?_
    show own_G p e below _ T0 (mkF m 54 #[.val (.int i0), .val (.int i1), .val (.int (i0 &&& (3 : Int32))), .val (.int i1)] [(.int i1)])
    obtain ⟨T2, L2, v2, X2, ⟨rfl, rfl, q2⟩, st2⟩ := own_callS X0 hx hZ (y := (⟨"com/example/locktop/locktop/view/Key", "typed", "(I)Lcom/example/locktop/locktop/view/Key;"⟩ : MethodName)) hown (hw _ (List.mem_of_getElem? (i := 0) rfl)) (hw _ (List.mem_of_getElem? (i := 1) rfl)) (hw _ (List.mem_of_getElem? (i := 2) rfl)) (hw _ (List.mem_of_getElem? (i := 3) rfl)) (by decide) (c_typed l Z a0 hw a_OTHER a_ENTER a_YES a_FIRST a_CANCEL a_PREVIOUS a_DOWN a_LAST a_QUIT a_TERMINATE a_UP a_MOST_WAITING a_NEXT i1 h0 B ) e0 (argsL := [(.int i1)]) (rest := []) (g := (mkF m 54 #[.val (.int i0), .val (.int i1), .val (.int (i0 &&& (3 : Int32))), .val (.int i1)] [(.int i1)])) rfl (by rw [hml]; rfl) (ps := [.int]) (r := (some (.object "com/example/locktop/locktop/view/Key"))) (by decide +kernel) rfl rfl (W := 0) (by show 2 * 0 + _ ≤ _; exact Nat.le_of_eq rfl) (hb hby at_54) (by decide) (by decide) (by decide) (by decide)
    have N2 := Fr.app N0 (Fr.nil n0)
    refine own_go st2 ?_
    show own_G p e below _ T2 (mkF m 57 #[.val (.int i0), .val (.int i1), .val (.int (i0 &&& (3 : Int32))), .val (.int i1)] [(.ref (own_typed a_OTHER a_ENTER a_YES a_FIRST a_CANCEL a_PREVIOUS a_DOWN a_LAST a_QUIT a_TERMINATE a_UP a_MOST_WAITING a_NEXT i1))])
    refine own_go (fun t k => XS.iloadN X2.here hx rfl (hb hby at_57) rfl k) ?_
    show own_G p e below _ T2 (mkF m 58 #[.val (.int i0), .val (.int i1), .val (.int (i0 &&& (3 : Int32))), .val (.int i1)] [(.int i1), (.ref (own_typed a_OTHER a_ENTER a_YES a_FIRST a_CANCEL a_PREVIOUS a_DOWN a_LAST a_QUIT a_TERMINATE a_UP a_MOST_WAITING a_NEXT i1))])
    obtain ⟨T3, L3, v3, X3, ⟨rfl, rfl, q3⟩, st3⟩ := own_callS X2 hx hZ (y := (⟨"com/example/locktop/locktop/view/KeyTypedPinLaw", "expected", "(I)Lcom/example/locktop/locktop/view/Key;"⟩ : MethodName)) hown (hw _ (List.mem_of_getElem? (i := 6) rfl)) (hw _ (List.mem_of_getElem? (i := 7) rfl)) (hw _ (List.mem_of_getElem? (i := 8) rfl)) (hw _ (List.mem_of_getElem? (i := 9) rfl)) (by decide) (c_exp l Z a0 hw a_OTHER a_ENTER a_YES a_FIRST a_CANCEL a_PREVIOUS a_DOWN a_LAST a_QUIT a_TERMINATE a_UP a_MOST_WAITING a_NEXT i1 h0 B ) q2 (argsL := [(.int i1)]) (rest := [(.ref (own_typed a_OTHER a_ENTER a_YES a_FIRST a_CANCEL a_PREVIOUS a_DOWN a_LAST a_QUIT a_TERMINATE a_UP a_MOST_WAITING a_NEXT i1))]) (g := (mkF m 58 #[.val (.int i0), .val (.int i1), .val (.int (i0 &&& (3 : Int32))), .val (.int i1)] [(.int i1), (.ref (own_typed a_OTHER a_ENTER a_YES a_FIRST a_CANCEL a_PREVIOUS a_DOWN a_LAST a_QUIT a_TERMINATE a_UP a_MOST_WAITING a_NEXT i1))])) rfl (by rw [hml]; rfl) (ps := [.int]) (r := (some (.object "com/example/locktop/locktop/view/Key"))) (by decide +kernel) rfl rfl (W := 1) (by show 2 * 0 + _ ≤ _; exact Nat.le_of_eq rfl) (hb hby at_58) (by decide) (by decide) (by decide) (by decide)
    have N3 := Fr.app N2 (Fr.nil n0)
    refine own_go st3 ?_
    show own_G p e below _ T3 (mkF m 61 #[.val (.int i0), .val (.int i1), .val (.int (i0 &&& (3 : Int32))), .val (.int i1)] [(.ref (own_exp a_OTHER a_ENTER a_YES a_FIRST a_CANCEL a_PREVIOUS a_DOWN a_LAST a_QUIT a_TERMINATE a_UP a_MOST_WAITING a_NEXT i1)), (.ref (own_typed a_OTHER a_ENTER a_YES a_FIRST a_CANCEL a_PREVIOUS a_DOWN a_LAST a_QUIT a_TERMINATE a_UP a_MOST_WAITING a_NEXT i1))])
    refine own_go (fun t k => Jvm.Free.XT.acmpNo X3.here hx rfl (hb hby at_61) rfl rfl rfl (own_acnF (own_same a_OTHER a_ENTER a_YES a_FIRST a_CANCEL a_PREVIOUS a_DOWN a_LAST a_QUIT a_TERMINATE a_UP a_MOST_WAITING a_NEXT i1)) k) ?_
    show own_G p e below _ T3 (mkF m 64 #[.val (.int i0), .val (.int i1), .val (.int (i0 &&& (3 : Int32))), .val (.int i1)] [])
    refine own_go (fun t k => XS.iconst X3.here hx rfl (hb hby at_64) k) ?_
    show own_G p e below _ T3 (mkF m 65 #[.val (.int i0), .val (.int i1), .val (.int (i0 &&& (3 : Int32))), .val (.int i1)] [(.int (1 : Int32))])
    refine own_go (fun t k => XS.goto X3.here hx rfl (pc0 := 65) (pc' := 69) rfl (hb hby at_65) (by decide) (by decide) k) ?_
    show own_G p e below _ T3 (mkF m 69 #[.val (.int i0), .val (.int i1), .val (.int (i0 &&& (3 : Int32))), .val (.int i1)] [(.int (1 : Int32))])
    exact own_retN X3 hx hlk hret (by simp) (hb hby at_69) (by decide) (by decide) ⟨rfl, N3⟩
  ·
    refine own_go (fun t k => XS.ifYes X0.here hx rfl (pc0 := 5) (pc' := 13) rfl (hb hby at_5) rfl (Jvm.Free.XT.i0_ne_t hc1) (by decide) (by decide) k) ?_
    show own_G p e below _ T0 (mkF m 13 #[.val (.int i0), .val (.int i1), .val (.int (i0 &&& (3 : Int32))), .unset] [])
    refine own_go (fun t k => XS.iloadN X0.here hx rfl (hb hby at_13) rfl k) ?_
    show own_G p e below _ T0 (mkF m 14 #[.val (.int i0), .val (.int i1), .val (.int (i0 &&& (3 : Int32))), .unset] [(.int (i0 &&& (3 : Int32)))])
    refine own_go (fun t k => XS.iconst X0.here hx rfl (hb hby at_14) k) ?_
    show own_G p e below _ T0 (mkF m 15 #[.val (.int i0), .val (.int i1), .val (.int (i0 &&& (3 : Int32))), .unset] [(.int (1 : Int32)), (.int (i0 &&& (3 : Int32)))])
    by_cases hc4 : (i0 &&& (3 : Int32)) = (1 : Int32)
    ·
      refine own_go (fun t k => XS.icmpNo X0.here hx rfl (hb hby at_15) rfl (Jvm.Free.XT.ii_ne_f hc4) k) ?_
      show own_G p e below _ T0 (mkF m 18 #[.val (.int i0), .val (.int i1), .val (.int (i0 &&& (3 : Int32))), .unset] [])
      refine own_go (fun t k => XS.iloadN X0.here hx rfl (hb hby at_18) rfl k) ?_
      show own_G p e below _ T0 (mkF m 19 #[.val (.int i0), .val (.int i1), .val (.int (i0 &&& (3 : Int32))), .unset] [(.int i1)])
      refine own_go (fun t k => XS.bipush X0.here hx rfl (hb hby at_19) k) ?_
      show own_G p e below _ T0 (mkF m 21 #[.val (.int i0), .val (.int i1), .val (.int (i0 &&& (3 : Int32))), .unset] [(.int (127 : Int32)), (.int i1)])
      refine own_go (fun t k => XS.iand X0.here hx rfl (hb hby at_21) rfl k) ?_
      show own_G p e below _ T0 (mkF m 22 #[.val (.int i0), .val (.int i1), .val (.int (i0 &&& (3 : Int32))), .unset] [(.int (i1 &&& (127 : Int32)))])
      refine own_go (fun t k => XS.istoreN X0.here hx rfl (hb hby at_22) rfl (l' := #[.val (.int i0), .val (.int i1), .val (.int (i0 &&& (3 : Int32))), .val (.int (i1 &&& (127 : Int32)))]) rfl k) ?_
      show own_G p e below _ T0 (mkF m 23 #[.val (.int i0), .val (.int i1), .val (.int (i0 &&& (3 : Int32))), .val (.int (i1 &&& (127 : Int32)))] [])
      refine own_go (fun t k => XS.goto X0.here hx rfl (pc0 := 23) (pc' := 53) rfl (hb hby at_23) (by decide) (by decide) k) ?_
      show own_G p e below _ T0 (mkF m 53 #[.val (.int i0), .val (.int i1), .val (.int (i0 &&& (3 : Int32))), .val (.int (i1 &&& (127 : Int32)))] [])
      refine own_go (fun t k => XS.iloadN X0.here hx rfl (hb hby at_53) rfl k) ?_
      show own_G p e below _ T0 (mkF m 54 #[.val (.int i0), .val (.int i1), .val (.int (i0 &&& (3 : Int32))), .val (.int (i1 &&& (127 : Int32)))] [(.int (i1 &&& (127 : Int32)))])
      obtain ⟨T5, L5, v5, X5, ⟨rfl, rfl, q5⟩, st5⟩ := own_callS X0 hx hZ (y := (⟨"com/example/locktop/locktop/view/Key", "typed", "(I)Lcom/example/locktop/locktop/view/Key;"⟩ : MethodName)) hown (hw _ (List.mem_of_getElem? (i := 0) rfl)) (hw _ (List.mem_of_getElem? (i := 1) rfl)) (hw _ (List.mem_of_getElem? (i := 2) rfl)) (hw _ (List.mem_of_getElem? (i := 3) rfl)) (by decide) (c_typed l Z a0 hw a_OTHER a_ENTER a_YES a_FIRST a_CANCEL a_PREVIOUS a_DOWN a_LAST a_QUIT a_TERMINATE a_UP a_MOST_WAITING a_NEXT (i1 &&& (127 : Int32)) h0 B ) e0 (argsL := [(.int (i1 &&& (127 : Int32)))]) (rest := []) (g := (mkF m 54 #[.val (.int i0), .val (.int i1), .val (.int (i0 &&& (3 : Int32))), .val (.int (i1 &&& (127 : Int32)))] [(.int (i1 &&& (127 : Int32)))])) rfl (by rw [hml]; rfl) (ps := [.int]) (r := (some (.object "com/example/locktop/locktop/view/Key"))) (by decide +kernel) rfl rfl (W := 0) (by show 2 * 0 + _ ≤ _; exact Nat.le_of_eq rfl) (hb hby at_54) (by decide) (by decide) (by decide) (by decide)
      have N5 := Fr.app N0 (Fr.nil n0)
      refine own_go st5 ?_
      show own_G p e below _ T5 (mkF m 57 #[.val (.int i0), .val (.int i1), .val (.int (i0 &&& (3 : Int32))), .val (.int (i1 &&& (127 : Int32)))] [(.ref (own_typed a_OTHER a_ENTER a_YES a_FIRST a_CANCEL a_PREVIOUS a_DOWN a_LAST a_QUIT a_TERMINATE a_UP a_MOST_WAITING a_NEXT (i1 &&& (127 : Int32))))])
      refine own_go (fun t k => XS.iloadN X5.here hx rfl (hb hby at_57) rfl k) ?_
      show own_G p e below _ T5 (mkF m 58 #[.val (.int i0), .val (.int i1), .val (.int (i0 &&& (3 : Int32))), .val (.int (i1 &&& (127 : Int32)))] [(.int (i1 &&& (127 : Int32))), (.ref (own_typed a_OTHER a_ENTER a_YES a_FIRST a_CANCEL a_PREVIOUS a_DOWN a_LAST a_QUIT a_TERMINATE a_UP a_MOST_WAITING a_NEXT (i1 &&& (127 : Int32))))])
      obtain ⟨T6, L6, v6, X6, ⟨rfl, rfl, q6⟩, st6⟩ := own_callS X5 hx hZ (y := (⟨"com/example/locktop/locktop/view/KeyTypedPinLaw", "expected", "(I)Lcom/example/locktop/locktop/view/Key;"⟩ : MethodName)) hown (hw _ (List.mem_of_getElem? (i := 6) rfl)) (hw _ (List.mem_of_getElem? (i := 7) rfl)) (hw _ (List.mem_of_getElem? (i := 8) rfl)) (hw _ (List.mem_of_getElem? (i := 9) rfl)) (by decide) (c_exp l Z a0 hw a_OTHER a_ENTER a_YES a_FIRST a_CANCEL a_PREVIOUS a_DOWN a_LAST a_QUIT a_TERMINATE a_UP a_MOST_WAITING a_NEXT (i1 &&& (127 : Int32)) h0 B ) q5 (argsL := [(.int (i1 &&& (127 : Int32)))]) (rest := [(.ref (own_typed a_OTHER a_ENTER a_YES a_FIRST a_CANCEL a_PREVIOUS a_DOWN a_LAST a_QUIT a_TERMINATE a_UP a_MOST_WAITING a_NEXT (i1 &&& (127 : Int32))))]) (g := (mkF m 58 #[.val (.int i0), .val (.int i1), .val (.int (i0 &&& (3 : Int32))), .val (.int (i1 &&& (127 : Int32)))] [(.int (i1 &&& (127 : Int32))), (.ref (own_typed a_OTHER a_ENTER a_YES a_FIRST a_CANCEL a_PREVIOUS a_DOWN a_LAST a_QUIT a_TERMINATE a_UP a_MOST_WAITING a_NEXT (i1 &&& (127 : Int32))))])) rfl (by rw [hml]; rfl) (ps := [.int]) (r := (some (.object "com/example/locktop/locktop/view/Key"))) (by decide +kernel) rfl rfl (W := 1) (by show 2 * 0 + _ ≤ _; exact Nat.le_of_eq rfl) (hb hby at_58) (by decide) (by decide) (by decide) (by decide)
      have N6 := Fr.app N5 (Fr.nil n0)
      refine own_go st6 ?_
      show own_G p e below _ T6 (mkF m 61 #[.val (.int i0), .val (.int i1), .val (.int (i0 &&& (3 : Int32))), .val (.int (i1 &&& (127 : Int32)))] [(.ref (own_exp a_OTHER a_ENTER a_YES a_FIRST a_CANCEL a_PREVIOUS a_DOWN a_LAST a_QUIT a_TERMINATE a_UP a_MOST_WAITING a_NEXT (i1 &&& (127 : Int32)))), (.ref (own_typed a_OTHER a_ENTER a_YES a_FIRST a_CANCEL a_PREVIOUS a_DOWN a_LAST a_QUIT a_TERMINATE a_UP a_MOST_WAITING a_NEXT (i1 &&& (127 : Int32))))])
      refine own_go (fun t k => Jvm.Free.XT.acmpNo X6.here hx rfl (hb hby at_61) rfl rfl rfl (own_acnF (own_same a_OTHER a_ENTER a_YES a_FIRST a_CANCEL a_PREVIOUS a_DOWN a_LAST a_QUIT a_TERMINATE a_UP a_MOST_WAITING a_NEXT (i1 &&& (127 : Int32)))) k) ?_
      show own_G p e below _ T6 (mkF m 64 #[.val (.int i0), .val (.int i1), .val (.int (i0 &&& (3 : Int32))), .val (.int (i1 &&& (127 : Int32)))] [])
      refine own_go (fun t k => XS.iconst X6.here hx rfl (hb hby at_64) k) ?_
      show own_G p e below _ T6 (mkF m 65 #[.val (.int i0), .val (.int i1), .val (.int (i0 &&& (3 : Int32))), .val (.int (i1 &&& (127 : Int32)))] [(.int (1 : Int32))])
      refine own_go (fun t k => XS.goto X6.here hx rfl (pc0 := 65) (pc' := 69) rfl (hb hby at_65) (by decide) (by decide) k) ?_
      show own_G p e below _ T6 (mkF m 69 #[.val (.int i0), .val (.int i1), .val (.int (i0 &&& (3 : Int32))), .val (.int (i1 &&& (127 : Int32)))] [(.int (1 : Int32))])
      exact own_retN X6 hx hlk hret (by simp) (hb hby at_69) (by decide) (by decide) ⟨rfl, N6⟩
    ·
      refine own_go (fun t k => XS.icmpYes X0.here hx rfl (pc0 := 15) (pc' := 26) rfl (hb hby at_15) rfl (Jvm.Free.XT.ii_ne_t hc4) (by decide) (by decide) k) ?_
      show own_G p e below _ T0 (mkF m 26 #[.val (.int i0), .val (.int i1), .val (.int (i0 &&& (3 : Int32))), .unset] [])
      refine own_go (fun t k => XS.iloadN X0.here hx rfl (hb hby at_26) rfl k) ?_
      show own_G p e below _ T0 (mkF m 27 #[.val (.int i0), .val (.int i1), .val (.int (i0 &&& (3 : Int32))), .unset] [(.int (i0 &&& (3 : Int32)))])
      refine own_go (fun t k => XS.iconst X0.here hx rfl (hb hby at_27) k) ?_
      show own_G p e below _ T0 (mkF m 28 #[.val (.int i0), .val (.int i1), .val (.int (i0 &&& (3 : Int32))), .unset] [(.int (2 : Int32)), (.int (i0 &&& (3 : Int32)))])
      by_cases hc7 : (i0 &&& (3 : Int32)) = (2 : Int32)
      ·
        refine own_go (fun t k => XS.icmpNo X0.here hx rfl (hb hby at_28) rfl (Jvm.Free.XT.ii_ne_f hc7) k) ?_
        show own_G p e below _ T0 (mkF m 31 #[.val (.int i0), .val (.int i1), .val (.int (i0 &&& (3 : Int32))), .unset] [])
        refine own_go (fun t k => XS.iloadN X0.here hx rfl (hb hby at_31) rfl k) ?_
        show own_G p e below _ T0 (mkF m 32 #[.val (.int i0), .val (.int i1), .val (.int (i0 &&& (3 : Int32))), .unset] [(.int i1)])
        refine own_go (fun t k => XS.sipush X0.here hx rfl (hb hby at_32) k) ?_
        show own_G p e below _ T0 (mkF m 35 #[.val (.int i0), .val (.int i1), .val (.int (i0 &&& (3 : Int32))), .unset] [(.int (255 : Int32)), (.int i1)])
        refine own_go (fun t k => XS.iand X0.here hx rfl (hb hby at_35) rfl k) ?_
        show own_G p e below _ T0 (mkF m 36 #[.val (.int i0), .val (.int i1), .val (.int (i0 &&& (3 : Int32))), .unset] [(.int (i1 &&& (255 : Int32)))])
        refine own_go (X0.ldcInt hx hown (mvT hZ (hw _ (List.mem_of_getElem? (i := 11) rfl))) (g := (mkF m 36 #[.val (.int i0), .val (.int i1), .val (.int (i0 &&& (3 : Int32))), .unset] [(.int (i1 &&& (255 : Int32)))])) rfl (hb hby at_36)) ?_
        show own_G p e below _ T0 (mkF m 38 #[.val (.int i0), .val (.int i1), .val (.int (i0 &&& (3 : Int32))), .unset] [(.int (65536 : Int32)), (.int (i1 &&& (255 : Int32)))])
        refine own_go (fun t k => XT.ior X0.here hx rfl (hb hby at_38) rfl k) ?_
        show own_G p e below _ T0 (mkF m 39 #[.val (.int i0), .val (.int i1), .val (.int (i0 &&& (3 : Int32))), .unset] [(.int ((i1 &&& (255 : Int32)) ||| (65536 : Int32)))])
        refine own_go (fun t k => XS.istoreN X0.here hx rfl (hb hby at_39) rfl (l' := #[.val (.int i0), .val (.int i1), .val (.int (i0 &&& (3 : Int32))), .val (.int ((i1 &&& (255 : Int32)) ||| (65536 : Int32)))]) rfl k) ?_
        show own_G p e below _ T0 (mkF m 40 #[.val (.int i0), .val (.int i1), .val (.int (i0 &&& (3 : Int32))), .val (.int ((i1 &&& (255 : Int32)) ||| (65536 : Int32)))] [])
        refine own_go (fun t k => XS.goto X0.here hx rfl (pc0 := 40) (pc' := 53) rfl (hb hby at_40) (by decide) (by decide) k) ?_
        show own_G p e below _ T0 (mkF m 53 #[.val (.int i0), .val (.int i1), .val (.int (i0 &&& (3 : Int32))), .val (.int ((i1 &&& (255 : Int32)) ||| (65536 : Int32)))] [])
        refine own_go (fun t k => XS.iloadN X0.here hx rfl (hb hby at_53) rfl k) ?_
        show own_G p e below _ T0 (mkF m 54 #[.val (.int i0), .val (.int i1), .val (.int (i0 &&& (3 : Int32))), .val (.int ((i1 &&& (255 : Int32)) ||| (65536 : Int32)))] [(.int ((i1 &&& (255 : Int32)) ||| (65536 : Int32)))])
        obtain ⟨T8, L8, v8, X8, ⟨rfl, rfl, q8⟩, st8⟩ := own_callS X0 hx hZ (y := (⟨"com/example/locktop/locktop/view/Key", "typed", "(I)Lcom/example/locktop/locktop/view/Key;"⟩ : MethodName)) hown (hw _ (List.mem_of_getElem? (i := 0) rfl)) (hw _ (List.mem_of_getElem? (i := 1) rfl)) (hw _ (List.mem_of_getElem? (i := 2) rfl)) (hw _ (List.mem_of_getElem? (i := 3) rfl)) (by decide) (c_typed l Z a0 hw a_OTHER a_ENTER a_YES a_FIRST a_CANCEL a_PREVIOUS a_DOWN a_LAST a_QUIT a_TERMINATE a_UP a_MOST_WAITING a_NEXT ((i1 &&& (255 : Int32)) ||| (65536 : Int32)) h0 B ) e0 (argsL := [(.int ((i1 &&& (255 : Int32)) ||| (65536 : Int32)))]) (rest := []) (g := (mkF m 54 #[.val (.int i0), .val (.int i1), .val (.int (i0 &&& (3 : Int32))), .val (.int ((i1 &&& (255 : Int32)) ||| (65536 : Int32)))] [(.int ((i1 &&& (255 : Int32)) ||| (65536 : Int32)))])) rfl (by rw [hml]; rfl) (ps := [.int]) (r := (some (.object "com/example/locktop/locktop/view/Key"))) (by decide +kernel) rfl rfl (W := 0) (by show 2 * 0 + _ ≤ _; exact Nat.le_of_eq rfl) (hb hby at_54) (by decide) (by decide) (by decide) (by decide)
        have N8 := Fr.app N0 (Fr.nil n0)
        refine own_go st8 ?_
        show own_G p e below _ T8 (mkF m 57 #[.val (.int i0), .val (.int i1), .val (.int (i0 &&& (3 : Int32))), .val (.int ((i1 &&& (255 : Int32)) ||| (65536 : Int32)))] [(.ref (own_typed a_OTHER a_ENTER a_YES a_FIRST a_CANCEL a_PREVIOUS a_DOWN a_LAST a_QUIT a_TERMINATE a_UP a_MOST_WAITING a_NEXT ((i1 &&& (255 : Int32)) ||| (65536 : Int32))))])
        refine own_go (fun t k => XS.iloadN X8.here hx rfl (hb hby at_57) rfl k) ?_
        show own_G p e below _ T8 (mkF m 58 #[.val (.int i0), .val (.int i1), .val (.int (i0 &&& (3 : Int32))), .val (.int ((i1 &&& (255 : Int32)) ||| (65536 : Int32)))] [(.int ((i1 &&& (255 : Int32)) ||| (65536 : Int32))), (.ref (own_typed a_OTHER a_ENTER a_YES a_FIRST a_CANCEL a_PREVIOUS a_DOWN a_LAST a_QUIT a_TERMINATE a_UP a_MOST_WAITING a_NEXT ((i1 &&& (255 : Int32)) ||| (65536 : Int32))))])
        obtain ⟨T9, L9, v9, X9, ⟨rfl, rfl, q9⟩, st9⟩ := own_callS X8 hx hZ (y := (⟨"com/example/locktop/locktop/view/KeyTypedPinLaw", "expected", "(I)Lcom/example/locktop/locktop/view/Key;"⟩ : MethodName)) hown (hw _ (List.mem_of_getElem? (i := 6) rfl)) (hw _ (List.mem_of_getElem? (i := 7) rfl)) (hw _ (List.mem_of_getElem? (i := 8) rfl)) (hw _ (List.mem_of_getElem? (i := 9) rfl)) (by decide) (c_exp l Z a0 hw a_OTHER a_ENTER a_YES a_FIRST a_CANCEL a_PREVIOUS a_DOWN a_LAST a_QUIT a_TERMINATE a_UP a_MOST_WAITING a_NEXT ((i1 &&& (255 : Int32)) ||| (65536 : Int32)) h0 B ) q8 (argsL := [(.int ((i1 &&& (255 : Int32)) ||| (65536 : Int32)))]) (rest := [(.ref (own_typed a_OTHER a_ENTER a_YES a_FIRST a_CANCEL a_PREVIOUS a_DOWN a_LAST a_QUIT a_TERMINATE a_UP a_MOST_WAITING a_NEXT ((i1 &&& (255 : Int32)) ||| (65536 : Int32))))]) (g := (mkF m 58 #[.val (.int i0), .val (.int i1), .val (.int (i0 &&& (3 : Int32))), .val (.int ((i1 &&& (255 : Int32)) ||| (65536 : Int32)))] [(.int ((i1 &&& (255 : Int32)) ||| (65536 : Int32))), (.ref (own_typed a_OTHER a_ENTER a_YES a_FIRST a_CANCEL a_PREVIOUS a_DOWN a_LAST a_QUIT a_TERMINATE a_UP a_MOST_WAITING a_NEXT ((i1 &&& (255 : Int32)) ||| (65536 : Int32))))])) rfl (by rw [hml]; rfl) (ps := [.int]) (r := (some (.object "com/example/locktop/locktop/view/Key"))) (by decide +kernel) rfl rfl (W := 1) (by show 2 * 0 + _ ≤ _; exact Nat.le_of_eq rfl) (hb hby at_58) (by decide) (by decide) (by decide) (by decide)
        have N9 := Fr.app N8 (Fr.nil n0)
        refine own_go st9 ?_
        show own_G p e below _ T9 (mkF m 61 #[.val (.int i0), .val (.int i1), .val (.int (i0 &&& (3 : Int32))), .val (.int ((i1 &&& (255 : Int32)) ||| (65536 : Int32)))] [(.ref (own_exp a_OTHER a_ENTER a_YES a_FIRST a_CANCEL a_PREVIOUS a_DOWN a_LAST a_QUIT a_TERMINATE a_UP a_MOST_WAITING a_NEXT ((i1 &&& (255 : Int32)) ||| (65536 : Int32)))), (.ref (own_typed a_OTHER a_ENTER a_YES a_FIRST a_CANCEL a_PREVIOUS a_DOWN a_LAST a_QUIT a_TERMINATE a_UP a_MOST_WAITING a_NEXT ((i1 &&& (255 : Int32)) ||| (65536 : Int32))))])
        refine own_go (fun t k => Jvm.Free.XT.acmpNo X9.here hx rfl (hb hby at_61) rfl rfl rfl (own_acnF (own_same a_OTHER a_ENTER a_YES a_FIRST a_CANCEL a_PREVIOUS a_DOWN a_LAST a_QUIT a_TERMINATE a_UP a_MOST_WAITING a_NEXT ((i1 &&& (255 : Int32)) ||| (65536 : Int32)))) k) ?_
        show own_G p e below _ T9 (mkF m 64 #[.val (.int i0), .val (.int i1), .val (.int (i0 &&& (3 : Int32))), .val (.int ((i1 &&& (255 : Int32)) ||| (65536 : Int32)))] [])
        refine own_go (fun t k => XS.iconst X9.here hx rfl (hb hby at_64) k) ?_
        show own_G p e below _ T9 (mkF m 65 #[.val (.int i0), .val (.int i1), .val (.int (i0 &&& (3 : Int32))), .val (.int ((i1 &&& (255 : Int32)) ||| (65536 : Int32)))] [(.int (1 : Int32))])
        refine own_go (fun t k => XS.goto X9.here hx rfl (pc0 := 65) (pc' := 69) rfl (hb hby at_65) (by decide) (by decide) k) ?_
        show own_G p e below _ T9 (mkF m 69 #[.val (.int i0), .val (.int i1), .val (.int (i0 &&& (3 : Int32))), .val (.int ((i1 &&& (255 : Int32)) ||| (65536 : Int32)))] [(.int (1 : Int32))])
        exact own_retN X9 hx hlk hret (by simp) (hb hby at_69) (by decide) (by decide) ⟨rfl, N9⟩
      ·
        refine own_go (fun t k => XS.icmpYes X0.here hx rfl (pc0 := 28) (pc' := 43) rfl (hb hby at_28) rfl (Jvm.Free.XT.ii_ne_t hc7) (by decide) (by decide) k) ?_
        show own_G p e below _ T0 (mkF m 43 #[.val (.int i0), .val (.int i1), .val (.int (i0 &&& (3 : Int32))), .unset] [])
        refine own_go (fun t k => XS.iloadN X0.here hx rfl (hb hby at_43) rfl k) ?_
        show own_G p e below _ T0 (mkF m 44 #[.val (.int i0), .val (.int i1), .val (.int (i0 &&& (3 : Int32))), .unset] [(.int i1)])
        refine own_go (fun t k => XS.sipush X0.here hx rfl (hb hby at_44) k) ?_
        show own_G p e below _ T0 (mkF m 47 #[.val (.int i0), .val (.int i1), .val (.int (i0 &&& (3 : Int32))), .unset] [(.int (255 : Int32)), (.int i1)])
        refine own_go (fun t k => XS.iand X0.here hx rfl (hb hby at_47) rfl k) ?_
        show own_G p e below _ T0 (mkF m 48 #[.val (.int i0), .val (.int i1), .val (.int (i0 &&& (3 : Int32))), .unset] [(.int (i1 &&& (255 : Int32)))])
        refine own_go (fun t k => XS.sipush X0.here hx rfl (hb hby at_48) k) ?_
        show own_G p e below _ T0 (mkF m 51 #[.val (.int i0), .val (.int i1), .val (.int (i0 &&& (3 : Int32))), .unset] [(.int (256 : Int32)), (.int (i1 &&& (255 : Int32)))])
        refine own_go (fun t k => XS.isub X0.here hx rfl (hb hby at_51) rfl k) ?_
        show own_G p e below _ T0 (mkF m 52 #[.val (.int i0), .val (.int i1), .val (.int (i0 &&& (3 : Int32))), .unset] [(.int ((i1 &&& (255 : Int32)) - (256 : Int32)))])
        refine own_go (fun t k => XS.istoreN X0.here hx rfl (hb hby at_52) rfl (l' := #[.val (.int i0), .val (.int i1), .val (.int (i0 &&& (3 : Int32))), .val (.int ((i1 &&& (255 : Int32)) - (256 : Int32)))]) rfl k) ?_
        show own_G p e below _ T0 (mkF m 53 #[.val (.int i0), .val (.int i1), .val (.int (i0 &&& (3 : Int32))), .val (.int ((i1 &&& (255 : Int32)) - (256 : Int32)))] [])
        refine own_go (fun t k => XS.iloadN X0.here hx rfl (hb hby at_53) rfl k) ?_
        show own_G p e below _ T0 (mkF m 54 #[.val (.int i0), .val (.int i1), .val (.int (i0 &&& (3 : Int32))), .val (.int ((i1 &&& (255 : Int32)) - (256 : Int32)))] [(.int ((i1 &&& (255 : Int32)) - (256 : Int32)))])
        obtain ⟨T10, L10, v10, X10, ⟨rfl, rfl, q10⟩, st10⟩ := own_callS X0 hx hZ (y := (⟨"com/example/locktop/locktop/view/Key", "typed", "(I)Lcom/example/locktop/locktop/view/Key;"⟩ : MethodName)) hown (hw _ (List.mem_of_getElem? (i := 0) rfl)) (hw _ (List.mem_of_getElem? (i := 1) rfl)) (hw _ (List.mem_of_getElem? (i := 2) rfl)) (hw _ (List.mem_of_getElem? (i := 3) rfl)) (by decide) (c_typed l Z a0 hw a_OTHER a_ENTER a_YES a_FIRST a_CANCEL a_PREVIOUS a_DOWN a_LAST a_QUIT a_TERMINATE a_UP a_MOST_WAITING a_NEXT ((i1 &&& (255 : Int32)) - (256 : Int32)) h0 B ) e0 (argsL := [(.int ((i1 &&& (255 : Int32)) - (256 : Int32)))]) (rest := []) (g := (mkF m 54 #[.val (.int i0), .val (.int i1), .val (.int (i0 &&& (3 : Int32))), .val (.int ((i1 &&& (255 : Int32)) - (256 : Int32)))] [(.int ((i1 &&& (255 : Int32)) - (256 : Int32)))])) rfl (by rw [hml]; rfl) (ps := [.int]) (r := (some (.object "com/example/locktop/locktop/view/Key"))) (by decide +kernel) rfl rfl (W := 0) (by show 2 * 0 + _ ≤ _; exact Nat.le_of_eq rfl) (hb hby at_54) (by decide) (by decide) (by decide) (by decide)
        have N10 := Fr.app N0 (Fr.nil n0)
        refine own_go st10 ?_
        show own_G p e below _ T10 (mkF m 57 #[.val (.int i0), .val (.int i1), .val (.int (i0 &&& (3 : Int32))), .val (.int ((i1 &&& (255 : Int32)) - (256 : Int32)))] [(.ref (own_typed a_OTHER a_ENTER a_YES a_FIRST a_CANCEL a_PREVIOUS a_DOWN a_LAST a_QUIT a_TERMINATE a_UP a_MOST_WAITING a_NEXT ((i1 &&& (255 : Int32)) - (256 : Int32))))])
        refine own_go (fun t k => XS.iloadN X10.here hx rfl (hb hby at_57) rfl k) ?_
        show own_G p e below _ T10 (mkF m 58 #[.val (.int i0), .val (.int i1), .val (.int (i0 &&& (3 : Int32))), .val (.int ((i1 &&& (255 : Int32)) - (256 : Int32)))] [(.int ((i1 &&& (255 : Int32)) - (256 : Int32))), (.ref (own_typed a_OTHER a_ENTER a_YES a_FIRST a_CANCEL a_PREVIOUS a_DOWN a_LAST a_QUIT a_TERMINATE a_UP a_MOST_WAITING a_NEXT ((i1 &&& (255 : Int32)) - (256 : Int32))))])
        obtain ⟨T11, L11, v11, X11, ⟨rfl, rfl, q11⟩, st11⟩ := own_callS X10 hx hZ (y := (⟨"com/example/locktop/locktop/view/KeyTypedPinLaw", "expected", "(I)Lcom/example/locktop/locktop/view/Key;"⟩ : MethodName)) hown (hw _ (List.mem_of_getElem? (i := 6) rfl)) (hw _ (List.mem_of_getElem? (i := 7) rfl)) (hw _ (List.mem_of_getElem? (i := 8) rfl)) (hw _ (List.mem_of_getElem? (i := 9) rfl)) (by decide) (c_exp l Z a0 hw a_OTHER a_ENTER a_YES a_FIRST a_CANCEL a_PREVIOUS a_DOWN a_LAST a_QUIT a_TERMINATE a_UP a_MOST_WAITING a_NEXT ((i1 &&& (255 : Int32)) - (256 : Int32)) h0 B ) q10 (argsL := [(.int ((i1 &&& (255 : Int32)) - (256 : Int32)))]) (rest := [(.ref (own_typed a_OTHER a_ENTER a_YES a_FIRST a_CANCEL a_PREVIOUS a_DOWN a_LAST a_QUIT a_TERMINATE a_UP a_MOST_WAITING a_NEXT ((i1 &&& (255 : Int32)) - (256 : Int32))))]) (g := (mkF m 58 #[.val (.int i0), .val (.int i1), .val (.int (i0 &&& (3 : Int32))), .val (.int ((i1 &&& (255 : Int32)) - (256 : Int32)))] [(.int ((i1 &&& (255 : Int32)) - (256 : Int32))), (.ref (own_typed a_OTHER a_ENTER a_YES a_FIRST a_CANCEL a_PREVIOUS a_DOWN a_LAST a_QUIT a_TERMINATE a_UP a_MOST_WAITING a_NEXT ((i1 &&& (255 : Int32)) - (256 : Int32))))])) rfl (by rw [hml]; rfl) (ps := [.int]) (r := (some (.object "com/example/locktop/locktop/view/Key"))) (by decide +kernel) rfl rfl (W := 1) (by show 2 * 0 + _ ≤ _; exact Nat.le_of_eq rfl) (hb hby at_58) (by decide) (by decide) (by decide) (by decide)
        have N11 := Fr.app N10 (Fr.nil n0)
        refine own_go st11 ?_
        show own_G p e below _ T11 (mkF m 61 #[.val (.int i0), .val (.int i1), .val (.int (i0 &&& (3 : Int32))), .val (.int ((i1 &&& (255 : Int32)) - (256 : Int32)))] [(.ref (own_exp a_OTHER a_ENTER a_YES a_FIRST a_CANCEL a_PREVIOUS a_DOWN a_LAST a_QUIT a_TERMINATE a_UP a_MOST_WAITING a_NEXT ((i1 &&& (255 : Int32)) - (256 : Int32)))), (.ref (own_typed a_OTHER a_ENTER a_YES a_FIRST a_CANCEL a_PREVIOUS a_DOWN a_LAST a_QUIT a_TERMINATE a_UP a_MOST_WAITING a_NEXT ((i1 &&& (255 : Int32)) - (256 : Int32))))])
        refine own_go (fun t k => Jvm.Free.XT.acmpNo X11.here hx rfl (hb hby at_61) rfl rfl rfl (own_acnF (own_same a_OTHER a_ENTER a_YES a_FIRST a_CANCEL a_PREVIOUS a_DOWN a_LAST a_QUIT a_TERMINATE a_UP a_MOST_WAITING a_NEXT ((i1 &&& (255 : Int32)) - (256 : Int32)))) k) ?_
        show own_G p e below _ T11 (mkF m 64 #[.val (.int i0), .val (.int i1), .val (.int (i0 &&& (3 : Int32))), .val (.int ((i1 &&& (255 : Int32)) - (256 : Int32)))] [])
        refine own_go (fun t k => XS.iconst X11.here hx rfl (hb hby at_64) k) ?_
        show own_G p e below _ T11 (mkF m 65 #[.val (.int i0), .val (.int i1), .val (.int (i0 &&& (3 : Int32))), .val (.int ((i1 &&& (255 : Int32)) - (256 : Int32)))] [(.int (1 : Int32))])
        refine own_go (fun t k => XS.goto X11.here hx rfl (pc0 := 65) (pc' := 69) rfl (hb hby at_65) (by decide) (by decide) k) ?_
        show own_G p e below _ T11 (mkF m 69 #[.val (.int i0), .val (.int i1), .val (.int (i0 &&& (3 : Int32))), .val (.int ((i1 &&& (255 : Int32)) - (256 : Int32)))] [(.int (1 : Int32))])
        exact own_retN X11 hx hlk hret (by simp) (hb hby at_69) (by decide) (by decide) ⟨rfl, N11⟩
set_option maxRecDepth 65536 in
set_option maxHeartbeats 40000000 in
theorem comes_1 {Post : Tables → Env → Array Value → State → Outcome → State → Prop} (hpost : ∀ tb e args s v u, (limb_1_1.after args s (.returned v) u = true ∧ limb_1_2.after args s (.returned v) u = true ∧ True) → FrameEnd s (.returned v) u (Jvm.fieldLocs frame_1_writes args s ++ Jvm.arrayLocs frame_1_arrays args s ++ Jvm.staticLocs frame_1_statics s) 0 0 → Post tb e args s (.returned v) u) :
    ArmFor flags0 classFile x code maxLocals ret World_1 tables_1 room_1 Calls_1 rest_1 Pre_1 Post := by
  intro l hfl _ _ p e ha hc hk s m args below hf hA hF happ hP
  obtain ⟨hcalls, hrest, hpre⟩ := hP
  obtain ⟨-, -, -, hnamed, -, -, -, hat⟩ := (Spec.applies_iff hf).mp happ
  obtain ⟨hg, hn⟩ := and_e (Cond.before_iff.mp (show (Jvm.Cond.and given_1 narrow_1).before args s = true from hpre))
  obtain ⟨h1, hg⟩ := and_e hg
  obtain ⟨w0, w1, rfl⟩ : ∃ w0 w1 : Value, args = #[w0, w1] := by
    have hs : args.size = 2 := by simpa [Cond.value, given_1] using h1
    obtain ⟨L⟩ := args
    match L, hs with
    | [w0, w1], _ => exact ⟨w0, w1, rfl⟩
  obtain ⟨hi0, hg⟩ := and_e hg
  obtain ⟨i0, ei0⟩ := is_v hi0
  obtain rfl : w0 = (.int i0) := Option.some.inj ei0
  obtain ⟨i1, ei1⟩ := is_v hg
  obtain rfl : w1 = (.int i1) := Option.some.inj ei1
  have hw := fun d (hd : d ∈ tables_1) => atoms_spec (ws := Jvm.Cond.code x code maxLocals ret :: tables_1) hat d (List.mem_cons_of_mem _ hd)
  obtain ⟨n0, hn⟩ := and_e hn
  obtain ⟨a_OTHER, v_OTHER⟩ := exa_v n0
  have S_OTHER := Sta.start v_OTHER (Or.inr ⟨(hw _ (List.mem_of_getElem? (i := 2) rfl)), (hw _ (List.mem_of_getElem? (i := 5) rfl))⟩)
  have E_OTHER := Exa.start v_OTHER n0
  obtain ⟨n1, hn⟩ := and_e hn
  obtain ⟨a_ENTER, v_ENTER⟩ := exa_v n1
  have S_ENTER := Sta.start v_ENTER (Or.inr ⟨(hw _ (List.mem_of_getElem? (i := 2) rfl)), (hw _ (List.mem_of_getElem? (i := 13) rfl))⟩)
  have E_ENTER := Exa.start v_ENTER n1
  obtain ⟨n2, hn⟩ := and_e hn
  obtain ⟨a_YES, v_YES⟩ := exa_v n2
  have S_YES := Sta.start v_YES (Or.inr ⟨(hw _ (List.mem_of_getElem? (i := 2) rfl)), (hw _ (List.mem_of_getElem? (i := 16) rfl))⟩)
  have E_YES := Exa.start v_YES n2
  obtain ⟨n3, hn⟩ := and_e hn
  obtain ⟨a_FIRST, v_FIRST⟩ := exa_v n3
  have S_FIRST := Sta.start v_FIRST (Or.inr ⟨(hw _ (List.mem_of_getElem? (i := 2) rfl)), (hw _ (List.mem_of_getElem? (i := 19) rfl))⟩)
  have E_FIRST := Exa.start v_FIRST n3
  obtain ⟨n4, hn⟩ := and_e hn
  obtain ⟨a_CANCEL, v_CANCEL⟩ := exa_v n4
  have S_CANCEL := Sta.start v_CANCEL (Or.inr ⟨(hw _ (List.mem_of_getElem? (i := 2) rfl)), (hw _ (List.mem_of_getElem? (i := 22) rfl))⟩)
  have E_CANCEL := Exa.start v_CANCEL n4
  obtain ⟨n5, hn⟩ := and_e hn
  obtain ⟨a_PREVIOUS, v_PREVIOUS⟩ := exa_v n5
  have S_PREVIOUS := Sta.start v_PREVIOUS (Or.inr ⟨(hw _ (List.mem_of_getElem? (i := 2) rfl)), (hw _ (List.mem_of_getElem? (i := 25) rfl))⟩)
  have E_PREVIOUS := Exa.start v_PREVIOUS n5
  obtain ⟨n6, hn⟩ := and_e hn
  obtain ⟨a_DOWN, v_DOWN⟩ := exa_v n6
  have S_DOWN := Sta.start v_DOWN (Or.inr ⟨(hw _ (List.mem_of_getElem? (i := 2) rfl)), (hw _ (List.mem_of_getElem? (i := 28) rfl))⟩)
  have E_DOWN := Exa.start v_DOWN n6
  obtain ⟨n7, hn⟩ := and_e hn
  obtain ⟨a_LAST, v_LAST⟩ := exa_v n7
  have S_LAST := Sta.start v_LAST (Or.inr ⟨(hw _ (List.mem_of_getElem? (i := 2) rfl)), (hw _ (List.mem_of_getElem? (i := 31) rfl))⟩)
  have E_LAST := Exa.start v_LAST n7
  obtain ⟨n8, hn⟩ := and_e hn
  obtain ⟨a_QUIT, v_QUIT⟩ := exa_v n8
  have S_QUIT := Sta.start v_QUIT (Or.inr ⟨(hw _ (List.mem_of_getElem? (i := 2) rfl)), (hw _ (List.mem_of_getElem? (i := 34) rfl))⟩)
  have E_QUIT := Exa.start v_QUIT n8
  obtain ⟨n9, hn⟩ := and_e hn
  obtain ⟨a_TERMINATE, v_TERMINATE⟩ := exa_v n9
  have S_TERMINATE := Sta.start v_TERMINATE (Or.inr ⟨(hw _ (List.mem_of_getElem? (i := 2) rfl)), (hw _ (List.mem_of_getElem? (i := 37) rfl))⟩)
  have E_TERMINATE := Exa.start v_TERMINATE n9
  obtain ⟨n10, hn⟩ := and_e hn
  obtain ⟨a_UP, v_UP⟩ := exa_v n10
  have S_UP := Sta.start v_UP (Or.inr ⟨(hw _ (List.mem_of_getElem? (i := 2) rfl)), (hw _ (List.mem_of_getElem? (i := 40) rfl))⟩)
  have E_UP := Exa.start v_UP n10
  obtain ⟨n11, hn⟩ := and_e hn
  obtain ⟨a_MOST_WAITING, v_MOST_WAITING⟩ := exa_v n11
  have S_MOST_WAITING := Sta.start v_MOST_WAITING (Or.inr ⟨(hw _ (List.mem_of_getElem? (i := 2) rfl)), (hw _ (List.mem_of_getElem? (i := 43) rfl))⟩)
  have E_MOST_WAITING := Exa.start v_MOST_WAITING n11
  obtain ⟨a_NEXT, v_NEXT⟩ := exa_v hn
  have S_NEXT := Sta.start v_NEXT (Or.inr ⟨(hw _ (List.mem_of_getElem? (i := 2) rfl)), (hw _ (List.mem_of_getElem? (i := 46) rfl))⟩)
  have E_NEXT := Exa.start v_NEXT hn
  have B : own_B s s.heap a_OTHER a_ENTER a_YES a_FIRST a_CANCEL a_PREVIOUS a_DOWN a_LAST a_QUIT a_TERMINATE a_UP a_MOST_WAITING a_NEXT := ⟨S_OTHER, E_OTHER, S_ENTER, E_ENTER, S_YES, E_YES, S_FIRST, E_FIRST, S_CANCEL, E_CANCEL, S_PREVIOUS, E_PREVIOUS, S_DOWN, E_DOWN, S_LAST, E_LAST, S_QUIT, E_QUIT, S_TERMINATE, E_TERMINATE, S_UP, E_UP, S_MOST_WAITING, E_MOST_WAITING, S_NEXT, E_NEXT⟩
  obtain ⟨n, o, h1, h2, h3, _, L, rfl, ⟨rfl, N⟩, hq⟩ := rm0 l s _ hw i0 i1 a_OTHER a_ENTER a_YES a_FIRST a_CANCEL a_PREVIOUS a_DOWN a_LAST a_QUIT a_TERMINATE a_UP a_MOST_WAITING a_NEXT s.heap s.heap.size (Nat.le_refl _) B tables_1 p e ha hc hk s m _ below hf ((Spec.applies_iff_loose hf).mp happ).1 ⟨rfl, State.Warmed39.refl s, rfl⟩ trivial
  refine ⟨n, _, h1, h2, h3, hpost _ _ _ _ _ _ ⟨Jvm.Cond.after_iff.mpr rfl, Jvm.Cond.after_iff.mpr (eq_i res_at (Term.int_eval (1)) rfl), trivial⟩ ⟨hq.1, hq.2.1, (hq.2.2.sift fun y hy => Or.inr (N y hy)).mono (by decide) (by decide)⟩⟩
theorem main_1_1 : Claimed_1_1 := comes_1 fun _ _ _ _ _ _ h hF => ⟨h.1, hF⟩
theorem main_1_2 : Claimed_1_2 := comes_1 fun _ _ _ _ _ _ h hF => ⟨h.2.1, hF⟩
end Jvm.Pilot.@@N@@
namespace Jvm.Pilot.@@N@@
open Jvm Jvm.ClassFile Sem Op Lib Jvm.Free Jvm.Stand Jvm.Pilot.@@N@@.Jvm.D
/-! MADE BY PROGRAM (witnessworld.py) out of the Statement's table words and the real class files: 12 classes; the members and pool entries that the words name. The judged class is class 1, her method 1. -/
namespace start1
open Jvm.ClassFile
def u (s : String) : CpInfo := .utf8 (stringToUtf16 s)
/-- a pool by its gaps: so many unusable entries, then the entry; so many at the end -/
def gap : Nat → List CpInfo → List CpInfo
  | 0, r => r
  | n + 1, r => .unusable :: gap n r
def poolList (es : List (Nat × CpInfo)) (last : Nat) : List CpInfo := es.foldr (fun e r => gap e.1 (e.2 :: r)) (gap last [])
def pool (es : List (Nat × CpInfo)) (last : Nat) : Array CpInfo := ⟨poolList es last⟩
def fileOf (pool : Array CpInfo) (this : Nat) (attrs : Array Attribute := #[]) (ms : Array MethodInfo := #[]) (fl : Nat := 33) (sup : Nat := 0) (ifs : Array Nat := #[]) (fds : Array FieldInfo := #[]) : ClassFile where
  minorVersion := 0
  majorVersion := 65
  constantPool := pool
  accessFlags := fl
  thisClass := this
  superClass := sup
  interfaces := ifs
  fields := fds
  methods := ms
  attributes := attrs
def plain (name : String) (sup : Option ClassId) : Class where
  name := name
  kind := .ordinary
  loader := none
  accessFlags := 33
  super := sup
  interfaces := #[]
  cf := none
  fields := #[]
  methods := #[]
  instanceTypes := #[]
  staticTypes := #[]
  resolved := #[]
  callSites := []
  init := .initialized
  statics := none
  mirror := none

def pool0 : Array CpInfo := pool [(5, u "<init>"), (0, u "()V"), (1, .class_ 10), (1, u "java/lang/Object")] 113

def k0m0 : Method := { name := "<init>", desc := "()V", sig := { parameters := [], returnType := none }, accessFlags := 1, code := none }
/-- java/lang/Object -/
def k0 : Class := { plain "java/lang/Object" none with
  accessFlags := 33
  interfaces := #[]
  cf := some (fileOf pool0 8 #[] #[{ accessFlags := 1, nameIndex := 5, descriptorIndex := 6, attributes := #[] }] 33 0 #[] #[])
  fields := #[]
  methods := #[k0m0]
  instanceTypes := #[]
  staticTypes := #[]
  resolved := Array.replicate 124 none
  statics := none }

def pool1 : Array CpInfo := pool [(2, .class_ 4), (1, u "java/lang/Object"), (0, u "<init>"), (0, u "()V"), (0, .integer 65536), (0, .methodref 9 10), (0, .class_ 11), (0, .nameAndType 12 13), (0, u "com/example/locktop/locktop/view/Key"), (0, u "typed"), (0, u "(I)Lcom/example/locktop/locktop/view/Key;"), (0, .methodref 15 16), (0, .class_ 17), (0, .nameAndType 18 13), (0, u "com/example/locktop/locktop/view/KeyTypedPinLaw"), (0, u "expected"), (0, .fieldref 9 20), (0, .nameAndType 21 22), (0, u "UP"), (0, u "Lcom/example/locktop/locktop/view/Key;"), (0, .fieldref 9 24), (0, .nameAndType 25 22), (0, u "DOWN"), (0, .fieldref 9 27), (0, .nameAndType 28 22), (0, u "ENTER"), (0, .fieldref 9 30), (0, .nameAndType 31 22), (0, u "CANCEL"), (0, .fieldref 9 33), (0, .nameAndType 34 22), (0, u "TERMINATE"), (0, .fieldref 9 36), (0, .nameAndType 37 22), (0, u "YES"), (0, .fieldref 9 39), (0, .nameAndType 40 22), (0, u "QUIT"), (0, .fieldref 9 42), (0, .nameAndType 43 22), (0, u "PREVIOUS"), (0, .fieldref 9 45), (0, .nameAndType 46 22), (0, u "NEXT"), (0, .fieldref 9 48), (0, .nameAndType 49 22), (0, u "FIRST"), (0, .fieldref 9 51), (0, .nameAndType 52 22), (0, u "LAST"), (0, .fieldref 9 54), (0, .nameAndType 55 22), (0, u "MOST_WAITING"), (0, .fieldref 9 57), (0, .nameAndType 58 22), (0, u "OTHER"), (2, u "law"), (0, u "(II)Z")] 3

def k1m0 : Method := { name := "<init>", desc := "()V", sig := { parameters := [], returnType := none }, accessFlags := 1, code := none }
def k1c1 : Code := { maxStack := 2, maxLocals := 4, code := code, exceptionTable := #[], attributes := #[] }
def k1m1 : Method := { name := "law", desc := "(II)Z", sig := { parameters := [.int, .int], returnType := some .boolean }, accessFlags := 9, code := some k1c1 }
def k1c2 : Code := { maxStack := 2, maxLocals := 1, code := method_3_code, exceptionTable := #[], attributes := #[] }
def k1m2 : Method := { name := "expected", desc := "(I)Lcom/example/locktop/locktop/view/Key;", sig := { parameters := [.int], returnType := some (.object "com/example/locktop/locktop/view/Key") }, accessFlags := 10, code := some k1c2 }
/-- com/example/locktop/locktop/view/KeyTypedPinLaw -/
def k1 : Class := { plain "com/example/locktop/locktop/view/KeyTypedPinLaw" (some 0) with
  accessFlags := 49
  interfaces := #[]
  cf := some (fileOf pool1 15 #[] #[{ accessFlags := 1, nameIndex := 5, descriptorIndex := 6, attributes := #[] }, { accessFlags := 9, nameIndex := 61, descriptorIndex := 62, attributes := #[] }, { accessFlags := 10, nameIndex := 18, descriptorIndex := 13, attributes := #[] }] 49 2 #[] #[])
  fields := #[]
  methods := #[k1m0, k1m1, k1m2]
  instanceTypes := #[]
  staticTypes := #[]
  resolved := Array.replicate 66 none
  statics := none }

def pool2 : Array CpInfo := pool [(1, .class_ 2), (0, u "java/lang/constant/Constable"), (0, .class_ 4), (0, u "java/lang/Object")] 6

/-- java/lang/constant/Constable -/
def k2 : Class := { plain "java/lang/constant/Constable" (some 0) with
  accessFlags := 1537
  interfaces := #[]
  cf := some (fileOf pool2 1 #[] #[] 1537 3 #[] #[])
  fields := #[]
  methods := #[]
  instanceTypes := #[]
  staticTypes := #[]
  resolved := Array.replicate 11 none
  statics := none }

def pool3 : Array CpInfo := pool [(1, .class_ 2), (0, u "java/lang/Comparable"), (0, .class_ 4), (0, u "java/lang/Object")] 7

/-- java/lang/Comparable -/
def k3 : Class := { plain "java/lang/Comparable" (some 0) with
  accessFlags := 1537
  interfaces := #[]
  cf := some (fileOf pool3 1 #[] #[] 1537 3 #[] #[])
  fields := #[]
  methods := #[]
  instanceTypes := #[]
  staticTypes := #[]
  resolved := Array.replicate 12 none
  statics := none }

def pool4 : Array CpInfo := pool [(1, .class_ 2), (0, u "java/io/Serializable"), (0, .class_ 4), (0, u "java/lang/Object")] 2

/-- java/io/Serializable -/
def k4 : Class := { plain "java/io/Serializable" (some 0) with
  accessFlags := 1537
  interfaces := #[]
  cf := some (fileOf pool4 1 #[] #[] 1537 3 #[] #[])
  fields := #[]
  methods := #[]
  instanceTypes := #[]
  staticTypes := #[]
  resolved := Array.replicate 7 none
  statics := none }

def pool5 : Array CpInfo := pool [(2, .class_ 4), (1, u "java/lang/Enum"), (0, u "name"), (0, u "Ljava/lang/String;"), (2, u "ordinal"), (0, u "I"), (1, .class_ 14), (1, u "java/lang/Object"), (4, u "hash"), (86, .class_ 108), (1, u "java/lang/Enum$EnumDesc"), (2, .class_ 112), (0, u "java/lang/constant/Constable"), (0, .class_ 114), (0, u "java/lang/Comparable"), (0, .class_ 116), (0, u "java/io/Serializable")] 87

/-- java/lang/Enum -/
def k5 : Class := { plain "java/lang/Enum" (some 0) with
  accessFlags := 1057
  interfaces := #[2, 3, 4]
  cf := some (fileOf pool5 2 #[.nestMembers #[106]] #[] 1057 12 #[111, 113, 115] #[{ accessFlags := 18, nameIndex := 5, descriptorIndex := 6, attributes := #[] }, { accessFlags := 18, nameIndex := 9, descriptorIndex := 10, attributes := #[] }, { accessFlags := 2, nameIndex := 19, descriptorIndex := 10, attributes := #[] }])
  fields := #[{ name := "name", type := (.object "java/lang/String"), accessFlags := 18, slot := 0, constantValue := 0 }, { name := "ordinal", type := .int, accessFlags := 18, slot := 1, constantValue := 0 }, { name := "hash", type := .int, accessFlags := 2, slot := 2, constantValue := 0 }]
  methods := #[]
  instanceTypes := #[(.object "java/lang/String"), .int, .int]
  staticTypes := #[]
  resolved := Array.replicate 204 none
  statics := none }

def pool6 : Array CpInfo := pool [(1, .class_ 2), (0, u "com/example/locktop/locktop/view/Key"), (0, .fieldref 1 4), (0, .nameAndType 5 6), (0, u "UP"), (0, u "Lcom/example/locktop/locktop/view/Key;"), (0, .fieldref 1 8), (0, .nameAndType 9 6), (0, u "DOWN"), (0, .fieldref 1 11), (0, .nameAndType 12 6), (0, u "ENTER"), (2, u "ESCAPE"), (0, .fieldref 1 17), (0, .nameAndType 18 6), (0, u "CANCEL"), (0, .fieldref 1 20), (0, .nameAndType 21 6), (0, u "TERMINATE"), (0, .fieldref 1 23), (0, .nameAndType 24 6), (0, u "YES"), (0, .fieldref 1 26), (0, .nameAndType 27 6), (0, u "QUIT"), (0, .fieldref 1 29), (0, .nameAndType 30 6), (0, u "PREVIOUS"), (0, .fieldref 1 32), (0, .nameAndType 33 6), (0, u "NEXT"), (0, .fieldref 1 35), (0, .nameAndType 36 6), (0, u "FIRST"), (0, .fieldref 1 38), (0, .nameAndType 39 6), (0, u "LAST"), (0, .fieldref 1 41), (0, .nameAndType 42 6), (0, u "MOST_WAITING"), (0, .fieldref 1 44), (0, .nameAndType 45 6), (0, u "OTHER"), (2, u "$VALUES"), (0, u "[Lcom/example/locktop/locktop/view/Key;"), (6, .class_ 58), (1, u "java/lang/Enum"), (25, u "UP_LETTER"), (0, u "C"), (2, u "DOWN_LETTER"), (1, u "CANCEL_LETTER"), (1, u "TERMINATE_LETTER"), (1, u "YES_LETTER"), (1, u "QUIT_LETTER"), (1, u "PREVIOUS_LETTER"), (1, u "NEXT_LETTER"), (1, u "FIRST_LETTER"), (1, u "LAST_LETTER"), (1, u "MOST_WAITING_LETTER"), (1, u "ACTION_KEYS"), (0, u "Ljava/lang/String;"), (2, u "STEPPING_KEYS"), (2, u "MOVES"), (2, u "LETTER_MOVES"), (2, u "FOREST_HINTS"), (2, u "FOLDED_HINTS"), (2, u "DETAIL_HINTS"), (2, u "ACTION_HINTS"), (2, u "READ_ONLY_HINTS"), (2, u "RECORDING_HINTS"), (2, u "YES_OR_NO"), (9, u "typed"), (0, u "(I)Lcom/example/locktop/locktop/view/Key;")] 7

def k6c0 : Code := { maxStack := 1, maxLocals := 1, code := prog_81_method_4_code, exceptionTable := #[], attributes := #[] }
def k6m0 : Method := { name := "typed", desc := "(I)Lcom/example/locktop/locktop/view/Key;", sig := { parameters := [.int], returnType := some (.object "com/example/locktop/locktop/view/Key") }, accessFlags := 8, code := some k6c0 }
/-- com/example/locktop/locktop/view/Key -/
def k6 : Class := { plain "com/example/locktop/locktop/view/Key" (some 5) with
  accessFlags := 16433
  interfaces := #[]
  cf := some (fileOf pool6 1 #[] #[{ accessFlags := 8, nameIndex := 149, descriptorIndex := 150, attributes := #[] }] 16433 56 #[] #[{ accessFlags := 16409, nameIndex := 5, descriptorIndex := 6, attributes := #[] }, { accessFlags := 16409, nameIndex := 9, descriptorIndex := 6, attributes := #[] }, { accessFlags := 16409, nameIndex := 12, descriptorIndex := 6, attributes := #[] }, { accessFlags := 16409, nameIndex := 15, descriptorIndex := 6, attributes := #[] }, { accessFlags := 16409, nameIndex := 18, descriptorIndex := 6, attributes := #[] }, { accessFlags := 16409, nameIndex := 21, descriptorIndex := 6, attributes := #[] }, { accessFlags := 16409, nameIndex := 24, descriptorIndex := 6, attributes := #[] }, { accessFlags := 16409, nameIndex := 27, descriptorIndex := 6, attributes := #[] }, { accessFlags := 16409, nameIndex := 30, descriptorIndex := 6, attributes := #[] }, { accessFlags := 16409, nameIndex := 33, descriptorIndex := 6, attributes := #[] }, { accessFlags := 16409, nameIndex := 36, descriptorIndex := 6, attributes := #[] }, { accessFlags := 16409, nameIndex := 39, descriptorIndex := 6, attributes := #[] }, { accessFlags := 16409, nameIndex := 42, descriptorIndex := 6, attributes := #[] }, { accessFlags := 16409, nameIndex := 45, descriptorIndex := 6, attributes := #[] }, { accessFlags := 26, nameIndex := 84, descriptorIndex := 85, attributes := #[] }, { accessFlags := 26, nameIndex := 88, descriptorIndex := 85, attributes := #[] }, { accessFlags := 26, nameIndex := 90, descriptorIndex := 85, attributes := #[] }, { accessFlags := 26, nameIndex := 92, descriptorIndex := 85, attributes := #[] }, { accessFlags := 26, nameIndex := 94, descriptorIndex := 85, attributes := #[] }, { accessFlags := 26, nameIndex := 96, descriptorIndex := 85, attributes := #[] }, { accessFlags := 26, nameIndex := 98, descriptorIndex := 85, attributes := #[] }, { accessFlags := 26, nameIndex := 100, descriptorIndex := 85, attributes := #[] }, { accessFlags := 26, nameIndex := 102, descriptorIndex := 85, attributes := #[] }, { accessFlags := 26, nameIndex := 104, descriptorIndex := 85, attributes := #[] }, { accessFlags := 26, nameIndex := 106, descriptorIndex := 85, attributes := #[] }, { accessFlags := 25, nameIndex := 108, descriptorIndex := 109, attributes := #[] }, { accessFlags := 25, nameIndex := 112, descriptorIndex := 109, attributes := #[] }, { accessFlags := 24, nameIndex := 115, descriptorIndex := 109, attributes := #[] }, { accessFlags := 24, nameIndex := 118, descriptorIndex := 109, attributes := #[] }, { accessFlags := 24, nameIndex := 121, descriptorIndex := 109, attributes := #[] }, { accessFlags := 24, nameIndex := 124, descriptorIndex := 109, attributes := #[] }, { accessFlags := 24, nameIndex := 127, descriptorIndex := 109, attributes := #[] }, { accessFlags := 24, nameIndex := 130, descriptorIndex := 109, attributes := #[] }, { accessFlags := 24, nameIndex := 133, descriptorIndex := 109, attributes := #[] }, { accessFlags := 24, nameIndex := 136, descriptorIndex := 109, attributes := #[] }, { accessFlags := 24, nameIndex := 139, descriptorIndex := 109, attributes := #[] }, { accessFlags := 4122, nameIndex := 48, descriptorIndex := 49, attributes := #[] }])
  fields := #[{ name := "UP", type := (.object "com/example/locktop/locktop/view/Key"), accessFlags := 16409, slot := 0, constantValue := 0 }, { name := "DOWN", type := (.object "com/example/locktop/locktop/view/Key"), accessFlags := 16409, slot := 1, constantValue := 0 }, { name := "ENTER", type := (.object "com/example/locktop/locktop/view/Key"), accessFlags := 16409, slot := 2, constantValue := 0 }, { name := "ESCAPE", type := (.object "com/example/locktop/locktop/view/Key"), accessFlags := 16409, slot := 3, constantValue := 0 }, { name := "CANCEL", type := (.object "com/example/locktop/locktop/view/Key"), accessFlags := 16409, slot := 4, constantValue := 0 }, { name := "TERMINATE", type := (.object "com/example/locktop/locktop/view/Key"), accessFlags := 16409, slot := 5, constantValue := 0 }, { name := "YES", type := (.object "com/example/locktop/locktop/view/Key"), accessFlags := 16409, slot := 6, constantValue := 0 }, { name := "QUIT", type := (.object "com/example/locktop/locktop/view/Key"), accessFlags := 16409, slot := 7, constantValue := 0 }, { name := "PREVIOUS", type := (.object "com/example/locktop/locktop/view/Key"), accessFlags := 16409, slot := 8, constantValue := 0 }, { name := "NEXT", type := (.object "com/example/locktop/locktop/view/Key"), accessFlags := 16409, slot := 9, constantValue := 0 }, { name := "FIRST", type := (.object "com/example/locktop/locktop/view/Key"), accessFlags := 16409, slot := 10, constantValue := 0 }, { name := "LAST", type := (.object "com/example/locktop/locktop/view/Key"), accessFlags := 16409, slot := 11, constantValue := 0 }, { name := "MOST_WAITING", type := (.object "com/example/locktop/locktop/view/Key"), accessFlags := 16409, slot := 12, constantValue := 0 }, { name := "OTHER", type := (.object "com/example/locktop/locktop/view/Key"), accessFlags := 16409, slot := 13, constantValue := 0 }, { name := "UP_LETTER", type := .char, accessFlags := 26, slot := 14, constantValue := 0 }, { name := "DOWN_LETTER", type := .char, accessFlags := 26, slot := 15, constantValue := 0 }, { name := "CANCEL_LETTER", type := .char, accessFlags := 26, slot := 16, constantValue := 0 }, { name := "TERMINATE_LETTER", type := .char, accessFlags := 26, slot := 17, constantValue := 0 }, { name := "YES_LETTER", type := .char, accessFlags := 26, slot := 18, constantValue := 0 }, { name := "QUIT_LETTER", type := .char, accessFlags := 26, slot := 19, constantValue := 0 }, { name := "PREVIOUS_LETTER", type := .char, accessFlags := 26, slot := 20, constantValue := 0 }, { name := "NEXT_LETTER", type := .char, accessFlags := 26, slot := 21, constantValue := 0 }, { name := "FIRST_LETTER", type := .char, accessFlags := 26, slot := 22, constantValue := 0 }, { name := "LAST_LETTER", type := .char, accessFlags := 26, slot := 23, constantValue := 0 }, { name := "MOST_WAITING_LETTER", type := .char, accessFlags := 26, slot := 24, constantValue := 0 }, { name := "ACTION_KEYS", type := (.object "java/lang/String"), accessFlags := 25, slot := 25, constantValue := 0 }, { name := "STEPPING_KEYS", type := (.object "java/lang/String"), accessFlags := 25, slot := 26, constantValue := 0 }, { name := "MOVES", type := (.object "java/lang/String"), accessFlags := 24, slot := 27, constantValue := 0 }, { name := "LETTER_MOVES", type := (.object "java/lang/String"), accessFlags := 24, slot := 28, constantValue := 0 }, { name := "FOREST_HINTS", type := (.object "java/lang/String"), accessFlags := 24, slot := 29, constantValue := 0 }, { name := "FOLDED_HINTS", type := (.object "java/lang/String"), accessFlags := 24, slot := 30, constantValue := 0 }, { name := "DETAIL_HINTS", type := (.object "java/lang/String"), accessFlags := 24, slot := 31, constantValue := 0 }, { name := "ACTION_HINTS", type := (.object "java/lang/String"), accessFlags := 24, slot := 32, constantValue := 0 }, { name := "READ_ONLY_HINTS", type := (.object "java/lang/String"), accessFlags := 24, slot := 33, constantValue := 0 }, { name := "RECORDING_HINTS", type := (.object "java/lang/String"), accessFlags := 24, slot := 34, constantValue := 0 }, { name := "YES_OR_NO", type := (.object "java/lang/String"), accessFlags := 24, slot := 35, constantValue := 0 }, { name := "$VALUES", type := (.array (.object "com/example/locktop/locktop/view/Key")), accessFlags := 4122, slot := 36, constantValue := 0 }]
  methods := #[k6m0]
  instanceTypes := #[(.object "java/lang/String"), .int, .int]
  staticTypes := #[(.object "com/example/locktop/locktop/view/Key"), (.object "com/example/locktop/locktop/view/Key"), (.object "com/example/locktop/locktop/view/Key"), (.object "com/example/locktop/locktop/view/Key"), (.object "com/example/locktop/locktop/view/Key"), (.object "com/example/locktop/locktop/view/Key"), (.object "com/example/locktop/locktop/view/Key"), (.object "com/example/locktop/locktop/view/Key"), (.object "com/example/locktop/locktop/view/Key"), (.object "com/example/locktop/locktop/view/Key"), (.object "com/example/locktop/locktop/view/Key"), (.object "com/example/locktop/locktop/view/Key"), (.object "com/example/locktop/locktop/view/Key"), (.object "com/example/locktop/locktop/view/Key"), .char, .char, .char, .char, .char, .char, .char, .char, .char, .char, .char, (.object "java/lang/String"), (.object "java/lang/String"), (.object "java/lang/String"), (.object "java/lang/String"), (.object "java/lang/String"), (.object "java/lang/String"), (.object "java/lang/String"), (.object "java/lang/String"), (.object "java/lang/String"), (.object "java/lang/String"), (.object "java/lang/String"), (.array (.object "com/example/locktop/locktop/view/Key"))]
  resolved := Array.replicate 158 none
  statics := some 0 }

def pool7 : Array CpInfo := pool [(1, u "java/lang/Cloneable"), (0, .class_ 1), (0, u "java/lang/Object"), (0, .class_ 3)] 3

/-- java/lang/Cloneable -/
def k7 : Class := { plain "java/lang/Cloneable" (some 0) with
  accessFlags := 1537
  interfaces := #[]
  cf := some (fileOf pool7 2 #[] #[] 1537 4 #[] #[])
  fields := #[]
  methods := #[]
  instanceTypes := #[]
  staticTypes := #[]
  resolved := Array.replicate 8 none
  statics := none }

/-- the primitive byte -/
def k8 : Class := { plain "byte" none with kind := .primitive 'B', accessFlags := 0x411 }
/-- [B -/
def k9 : Class := { plain "[B" (some 0) with kind := .array 8 .byte, interfaces := #[7, 4], accessFlags := 1041 }

/-- the primitive int -/
def k10 : Class := { plain "int" none with kind := .primitive 'I', accessFlags := 0x411 }
/-- [I -/
def k11 : Class := { plain "[I" (some 0) with kind := .array 10 .int, interfaces := #[7, 4], accessFlags := 1041 }

def heap : Heap := #[{ cls := 6, slots := #[.ref 11, .ref 7, .ref 2, .null, .ref 5, .ref 10, .ref 3, .ref 9, .ref 6, .ref 13, .ref 4, .ref 8, .ref 12, .ref 1, .int 0, .int 0, .int 0, .int 0, .int 0, .int 0, .int 0, .int 0, .int 0, .int 0, .int 0, .null, .null, .null, .null, .null, .null, .null, .null, .null, .null, .null, .null], vm := .statics 6 },
  { cls := 6, slots := #[.null, .int 0, .int 0], vm := .none },
  { cls := 6, slots := #[.null, .int 0, .int 0], vm := .none },
  { cls := 6, slots := #[.null, .int 0, .int 0], vm := .none },
  { cls := 6, slots := #[.null, .int 0, .int 0], vm := .none },
  { cls := 6, slots := #[.null, .int 0, .int 0], vm := .none },
  { cls := 6, slots := #[.null, .int 0, .int 0], vm := .none },
  { cls := 6, slots := #[.null, .int 0, .int 0], vm := .none },
  { cls := 6, slots := #[.null, .int 0, .int 0], vm := .none },
  { cls := 6, slots := #[.null, .int 0, .int 0], vm := .none },
  { cls := 6, slots := #[.null, .int 0, .int 0], vm := .none },
  { cls := 6, slots := #[.null, .int 0, .int 0], vm := .none },
  { cls := 6, slots := #[.null, .int 0, .int 0], vm := .none },
  { cls := 6, slots := #[.null, .int 0, .int 0], vm := .none }]
def classes : Array Class := #[k0, k1, k2, k3, k4, k5, k6, k7, k8, k9, k10, k11]
def interned : List (Array UInt16 × Addr) := []
def slotsUsed : Nat := 76
def theMethod : MethodId := ⟨1, 1⟩
def args0 : Array Value := #[.int 5, .int 1]
def aboutOver (below : List Frame) : State where
  vm := { classes := classes, interned := interned.toArray }
  heap := heap
  slotsUsed := slotsUsed
  threads := #[{ frames := .invoking theMethod args0 :: below }]
def below0 : List Frame := [.native { method := ⟨0, 0⟩, args := #[] }]
def about1 : State := aboutOver below0
def p0 : Program := .bare "" "" ""
def e0 : Env := launch0.env 0 0 0
theorem w_frames : about1.frames = Frame.invoking theMethod args0 :: below0 := rfl
set_option maxRecDepth 65536 in
theorem w_args : argsFit about1.vm theMethod args0 = true := by decide +kernel
set_option maxRecDepth 65536 in
theorem w_heap : heapFits about1 = true := by decide +kernel
set_option maxRecDepth 65536 in
theorem w_runnable : about1.curStatus? = some .runnable := by decide +kernel
set_option maxRecDepth 65536 in
theorem w_alone : about1.alone = true := by decide +kernel
set_option maxRecDepth 65536 in
theorem w_named : about1.methodNamed? x = some theMethod := by decide +kernel
set_option maxRecDepth 65536 in
theorem w_hears : about1.hears theMethod below0 = true := by decide +kernel
set_option maxRecDepth 65536 in
theorem w_ripe : about1.ripe theMethod args0 below0 = true := by decide +kernel
theorem w_running : about1.status = .running := rfl
set_option maxRecDepth 65536 in
theorem w_room : about1.hasRoom e0.platform room_1 = true :=
  launch0.hasRoom_least _ room_1 (by decide +kernel) (by decide +kernel) (by decide +kernel) (by decide +kernel) (by decide +kernel) (by decide +kernel)
theorem allAtoms_all (ts : List Jvm.Cond) (a : Array Jvm.Value) (st : Jvm.State) : (allAtoms ts).before a st = ts.all (fun c => c.before a st) := by
  induction ts with
  | nil => rfl
  | cons c t ih =>
    show (Jvm.Cond.and c (allAtoms t)).before a st = _
    rw [Jvm.Cond.before_and, ih, List.all_cons]
def words1 : List Jvm.Cond := Jvm.Cond.code x code maxLocals ret :: tables_1
/-- a 'code' word, met by the world's own term for the bytes: nothing is compared byte by byte -/
theorem code_word {y : MethodName} {bytes : ByteArray} {mx : Nat} {rt : Option FieldType} {a : Array Value} {s : State} {m : MethodId} {meth : Method} {c : Code} (h1 : s.methodNamed? y = some m) (h2 : s.vm.method? m = some meth) (h3 : meth.code = some c) (h4 : c.code = bytes)
    (h5 : (c.maxLocals == mx && c.exceptionTable.isEmpty && decide (c.maxStack ≤ mostOperands) && decide (meth.sig.returnType = rt) && !meth.locks && decide (parseMethodDescriptor y.desc = some meth.sig)) = true) : (Jvm.Cond.code y bytes mx rt).before a s = true := by
  simp only [Bool.and_eq_true, beq_iff_eq, Bool.not_eq_true', decide_eq_true_eq] at h5
  obtain ⟨⟨⟨⟨⟨g1, g2⟩, g3⟩, g4⟩, g5⟩, g6⟩ := h5
  simp [Cond.before, Cond.holds, Cond.value, h1, h2, h3, h4, g1, g2, g3, g4, g5, g6]
def isCode : Jvm.Cond → Bool
  | .code _ _ _ _ => true
  | _ => false
theorem all_split {L : List Jvm.Cond} {P : Jvm.Cond → Bool} (h1 : L.all (fun c => isCode c || P c) = true) (h2 : ∀ c ∈ L.filter isCode, P c = true) : L.all P = true := by
  refine List.all_eq_true.mpr fun c hc => ?_
  have h := List.all_eq_true.mp h1 c hc
  rcases Bool.eq_false_or_eq_true (isCode c) with hi | hi
  · exact h2 c (List.mem_filter.mpr ⟨hc, hi⟩)
  · simpa [hi] using h
set_option maxRecDepth 65536 in
theorem w_c0 : (Jvm.Cond.code x code maxLocals ret).before args0 about1 = true := code_word (m := ⟨1, 1⟩) (meth := k1m1) (c := k1c1) (by decide +kernel) rfl rfl rfl (by decide +kernel)
set_option maxRecDepth 65536 in
theorem w_c1 : (Jvm.Cond.code ({ cls := "com/example/locktop/locktop/view/Key", name := "typed", desc := "(I)Lcom/example/locktop/locktop/view/Key;" } : Jvm.MethodName) prog_81_method_4_code (1 : Nat) (Option.some (Jvm.ClassFile.FieldType.object "com/example/locktop/locktop/view/Key"))).before args0 about1 = true := code_word (m := ⟨6, 0⟩) (meth := k6m0) (c := k6c0) (by decide +kernel) rfl rfl rfl (by decide +kernel)
set_option maxRecDepth 65536 in
theorem w_c2 : (Jvm.Cond.code ({ cls := "com/example/locktop/locktop/view/KeyTypedPinLaw", name := "expected", desc := "(I)Lcom/example/locktop/locktop/view/Key;" } : Jvm.MethodName) method_3_code (1 : Nat) (Option.some (Jvm.ClassFile.FieldType.object "com/example/locktop/locktop/view/Key"))).before args0 about1 = true := code_word (m := ⟨1, 2⟩) (meth := k1m2) (c := k1c2) (by decide +kernel) rfl rfl rfl (by decide +kernel)
def codes1 : List Jvm.Cond := [Jvm.Cond.code x code maxLocals ret, Jvm.Cond.code ({ cls := "com/example/locktop/locktop/view/Key", name := "typed", desc := "(I)Lcom/example/locktop/locktop/view/Key;" } : Jvm.MethodName) prog_81_method_4_code (1 : Nat) (Option.some (Jvm.ClassFile.FieldType.object "com/example/locktop/locktop/view/Key")), Jvm.Cond.code ({ cls := "com/example/locktop/locktop/view/KeyTypedPinLaw", name := "expected", desc := "(I)Lcom/example/locktop/locktop/view/Key;" } : Jvm.MethodName) method_3_code (1 : Nat) (Option.some (Jvm.ClassFile.FieldType.object "com/example/locktop/locktop/view/Key"))]
set_option maxRecDepth 65536 in
theorem codes_eq : words1.filter isCode = codes1 := rfl
theorem w_codes : ∀ c ∈ words1.filter isCode, c.before args0 about1 = true := by
  rw [codes_eq]
  intro c hc
  simp only [codes1, List.mem_cons, List.not_mem_nil, or_false] at hc
  rcases hc with rfl | rfl | rfl
  · exact w_c0
  · exact w_c1
  · exact w_c2
set_option maxRecDepth 65536 in
theorem w_t1 : (words1.take 24).all (fun c => isCode c || c.before args0 about1) = true := by decide +kernel
set_option maxRecDepth 65536 in
theorem w_t2 : ((words1.drop 24).take 24).all (fun c => isCode c || c.before args0 about1) = true := by decide +kernel
set_option maxRecDepth 65536 in
theorem w_t3 : ((words1.drop 24).drop 24).all (fun c => isCode c || c.before args0 about1) = true := by decide +kernel
theorem w_tables : (allAtoms (Jvm.Cond.code x code maxLocals ret :: tables_1)).before args0 about1 = true := by
  rw [allAtoms_all]
  show words1.all (fun c => c.before args0 about1) = true
  refine all_split ?_ w_codes
  rw [← List.take_append_drop 24 words1, List.all_append, w_t1, ← List.take_append_drop 24 (words1.drop 24), List.all_append, w_t2, w_t3]
  rfl
set_option maxRecDepth 65536 in
theorem w_case : (Jvm.Cond.and given_1 narrow_1).before args0 about1 = true := by decide +kernel
theorem w_applies : (headSpec (Jvm.Cond.code x code maxLocals ret :: tables_1) room_1).applies x e0.platform about1 = true :=
  (Spec.applies_iff w_frames).mpr ⟨w_running, w_runnable, w_alone, w_named, w_hears, w_ripe, w_room, w_tables⟩
theorem atStart : AtStart classFile x code maxLocals ret World_1 tables_1 room_1 Calls_1 rest_1 Pre_1 launch0 p0 e0 about1 theMethod args0 below0 :=
  ⟨lists_1, trivial, launch0.admits_env _ _ _, launch0.least_env, fairChoices_fair.cas, fairChoices_fair.clock, w_frames, w_args, w_heap, w_applies, trivial, trivial, w_case⟩
end start1
theorem witness_1 : WitnessClaimed_1 := ⟨start1.p0, start1.e0, start1.about1, start1.theMethod, start1.args0, start1.below0, start1.atStart⟩
end Jvm.Pilot.@@N@@
