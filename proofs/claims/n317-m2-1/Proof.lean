import JvmDerived
import JvmDerived.Pilot.@@N@@Statement
import JvmDerived.Pilot.@@N@@Code
set_option linter.unusedVariables false
set_option linter.unusedSimpArgs false
@@BLOCK:NumsL.lean.txt@@
namespace Jvm.Pilot.@@N@@
open Jvm Jvm.ClassFile Sem Op Lib Jvm.Free Jvm.Stand Jvm.LawKit Jvm.RoadKit Bundle Jvm.Pilot.@@N@@.Jvm.D
section Own
variable {p : Program} {l : Launch} {e : Env} {R : Room} {s : State} {m : MethodId} {args : Array Value} {below : List Frame} {meth : Method} {c : Code} {T : State} {locs : List Loc} {cells slots : Nat} {Z : State} {a0 : Array Value} {h : Heap}
/-- from here the walk comes to an end that P holds of -/
def own_G (p : Program) (e : Env) (below : List Frame) (P : State → Outcome → Prop) (T : State) (g : JFrame) : Prop := ∃ t o, Steps p.tables e below (T.setTop g) t ∧ P t o
def own_P (below : List Frame) (s : State) (rm : Room) (Q : Option Value → Heap → List Loc → Prop) (t : State) (o : Outcome) : Prop := t.status = .running ∧ Ended t below o ∧ ∃ v L, o = .returned v ∧ Q v t.heap L ∧ FrameEnd s o t L rm.cells rm.slots
/-- a body's contract: over these arguments and this heap it returns, and Q holds of what it returns, the heap and the places written -/
def own_M (l : Launch) (Z : State) (y : MethodName) (code : ByteArray) (maxL : Nat) (ret : Option FieldType) (rm : Room) (as : Array Value) (h : Heap) (Q : Option Value → Heap → List Loc → Prop) : Prop :=
  ∀ ws : List Jvm.Cond, MetFree l y (head1 (Jvm.Cond.code y code maxL ret :: ws) rm) (fun a U => a = as ∧ Z.Warmed39 U.vm ∧ U.heap = h) (fun _ _ _ _ _ => True) (fun _ U o U' => ∃ v L, o = .returned v ∧ Q v U'.heap L ∧ FrameEnd U o U' L rm.cells rm.slots)
theorem own_go {P : State → Outcome → Prop} {T' : State} {g g' : JFrame} (st : ∀ t, Steps p.tables e below (T'.setTop g') t → Steps p.tables e below (T.setTop g) t) (k : own_G p e below P T' g') : own_G p e below P T g := by
  obtain ⟨t, o, h1, h2⟩ := k
  exact ⟨t, o, st t h1, h2⟩
theorem own_body {y : MethodName} {code : ByteArray} {maxL : Nat} {ret : Option FieldType} {rm : Room} {as : Array Value} {Q : Option Value → Heap → List Loc → Prop} (hn : plainFor y = true)
    (body : ∀ (p : Program) (e : Env) (s : State) (m : MethodId) (below : List Frame) (meth : Method) (c : Code) (T : State), p.tables.exec = Jvm.exec → c.code = code → c.maxLocals = maxL → meth.locks = false → s.vm.findClass y.cls = some m.cls → meth.sig.returnType = ret → meth.name = y.name → Z.Warmed39 s.vm → Stand p l e rm s m as below meth c T [] 0 0 → T.heap = h → own_G p e below (own_P below s rm Q) T (entryFrame m as maxL)) :
    own_M l Z y code maxL ret rm as h Q := by
  intro ws
  refine MetFree.of_bodySF hn hisR ?_
  intro p e s m args below meth c s₁ Bd hml0 hP hK
  obtain ⟨rfl, hZ, hh⟩ := hP
  obtain ⟨t, o, h1, h2, h3, h4⟩ := body p e s m below meth c s₁ Bd.exec Bd.bytes hml0 Bd.notSynchronized (findClass_of_methodNamed Bd.named) Bd.returns (name_of_methodNamed Bd.named Bd.method).1 hZ (Stand.of_body Bd) (by rw [← hh, Bd.state]; rfl)
  exact ⟨t, o, h1, h2, h3, h4⟩
theorem own_retI {rm : Room} {Q : Option Value → Heap → List Loc → Prop} (X : Stand p l e R s m args below meth c T locs cells slots) (hx : p.tables.exec = Jvm.exec) (hlk : meth.locks = false) (hret : meth.sig.returnType = some .int) {pc : Nat} {Ls : Array Slot} {z : Int32} {rest : List Value} (hd : decode c.code pc = .ok (.ireturn, 1)) (hc : cells ≤ rm.cells) (hs : slots ≤ rm.slots) (hQ : Q (some (.int z)) T.heap locs) :
    own_G p e below (own_P below s rm Q) T (mkF m pc Ls (.int z :: rest)) := by
  obtain ⟨fs, hr, hrun, hended, hW, hsame⟩ := X.leave (v := some (.int z)) (fun h => by rw [hret] at h; cases h) hlk
  exact ⟨_, _, retOut X hx hret rfl (Or.inl ⟨rfl, Or.inl rfl, _, rfl⟩) hd hr, hrun, hended, _, _, rfl, hQ, ⟨_, rfl⟩, hW, hsame.mono hc hs⟩
theorem own_retN {rm : Room} {Q : Option Value → Heap → List Loc → Prop} (X : Stand p l e R s m args below meth c T locs cells slots) (hx : p.tables.exec = Jvm.exec) (hlk : meth.locks = false) {t : FieldType} (hret : meth.sig.returnType = some t) (ht : t = .boolean ∨ t = .byte ∨ t = .char ∨ t = .short) {pc : Nat} {Ls : Array Slot} {z : Int32} {rest : List Value} (hd : decode c.code pc = .ok (.ireturn, 1)) (hc : cells ≤ rm.cells) (hs : slots ≤ rm.slots) (hQ : Q (some (.int (nar t z))) T.heap locs) :
    own_G p e below (own_P below s rm Q) T (mkF m pc Ls (.int z :: rest)) := by
  obtain ⟨fs, hr, hrun, hended, hW, hsame⟩ := X.leave (v := some (.int (nar t z))) (fun h => by rw [hret] at h; cases h) hlk
  exact ⟨_, _, retN X hx hret ht hd hr, hrun, hended, _, _, rfl, hQ, ⟨_, rfl⟩, hW, hsame.mono hc hs⟩
theorem own_narrow {t : FieldType} {w : Value} (hw : w.isRef = true) : narrow t w = w := by
  rcases ref_cases hw with rfl | ⟨a, rfl⟩ <;> cases t <;> rfl
theorem own_retA {rm : Room} {Q : Option Value → Heap → List Loc → Prop} (X : Stand p l e R s m args below meth c T locs cells slots) (hx : p.tables.exec = Jvm.exec) (hlk : meth.locks = false) {t : FieldType} (hret : meth.sig.returnType = some t) (ht : t.isReference = true) {pc : Nat} {Ls : Array Slot} {w : Value} {rest : List Value} (hw : w.isRef = true) (hd : decode c.code pc = .ok (.areturn, 1)) (hc : cells ≤ rm.cells) (hs : slots ≤ rm.slots) (hQ : Q (some w) T.heap locs) :
    own_G p e below (own_P below s rm Q) T (mkF m pc Ls (w :: rest)) := by
  obtain ⟨fs, hr, hrun, hended, hW, hsame⟩ := X.leave (v := some w) (fun h => by rw [hret] at h; cases h) hlk
  exact ⟨_, _, retOut X hx hret (own_narrow hw) (Or.inr (Or.inr (Or.inr (Or.inr ⟨rfl, ht, hw⟩)))) hd hr, hrun, hended, _, _, rfl, hQ, ⟨_, rfl⟩, hW, hsame.mono hc hs⟩
theorem own_ret0 {rm : Room} {Q : Option Value → Heap → List Loc → Prop} (X : Stand p l e R s m args below meth c T locs cells slots) (hx : p.tables.exec = Jvm.exec) (hlk : meth.locks = false) (hret : meth.sig.returnType = none) {pc : Nat} {Ls : Array Slot} (hd : decode c.code pc = .ok (.return_, 1)) (hc : cells ≤ rm.cells) (hs : slots ≤ rm.slots) (hQ : Q none T.heap locs) :
    own_G p e below (own_P below s rm Q) T (mkF m pc Ls []) := by
  obtain ⟨fs, hr, hrun, hended, hW, hsame⟩ := X.leave (v := none) (fun _ => rfl) hlk
  exact ⟨_, _, X.returnOut hx hret hd hr, hrun, hended, _, _, rfl, hQ, ⟨_, rfl⟩, hW, hsame.mono hc hs⟩
theorem own_callS (X : Stand p l e R s m args below meth c T locs cells slots) (hx : p.tables.exec = Jvm.exec) (hZ : Z.Warmed39 s.vm) {own : String} {index : Nat} {y : MethodName} {bytes : ByteArray} {maxL : Nat} {ret : Option FieldType} (hown : s.vm.findClass own = some m.cls)
    (w1 : (Jvm.Cond.methodLink own index y).before a0 Z = true) (w2 : (Jvm.Cond.static y).before a0 Z = true) (w3 : (Jvm.Cond.initialized y.cls).before a0 Z = true) (w4 : (Jvm.Cond.code y bytes maxL ret).before a0 Z = true) (hy : y.cls ≠ "java/lang/invoke/MethodHandle" ∧ y.cls ≠ "java/lang/invoke/VarHandle")
    {rm : Room} {argsL rest : List Value} {Q : Option Value → Heap → List Loc → Prop} (hM : own_M l Z y bytes maxL ret rm argsL.toArray h Q) (eT : T.heap = h) {g : JFrame} (hg : g.method = m) (hsize : g.locals.size = c.maxLocals) {ps : List FieldType} {r : Option FieldType} (hpd : parseMethodDescriptor y.desc = some ⟨ps, r⟩) (hpl : argsL.length = ps.length)
    (hstack : g.stack = argsL.reverse ++ rest) {W : Nat} (hW : 2 * g.monitorRoom + (rest.map fun v => v.category).sum ≤ W) (hdg : decode c.code g.pc = .ok (.invokestatic index, 3)) (hf : rm.frames + 1 ≤ R.frames) (hl : W + (maxL + 11) + rm.locals ≤ R.locals) (hc : cells + rm.cells ≤ R.cells) (hs : slots + rm.slots ≤ R.slots) :
    ∃ (T' : State) (L : List Loc) (v : Option Value), Stand p l e R s m args below meth c T' (locs ++ L) (cells + rm.cells) (slots + rm.slots) ∧ Q v T'.heap L ∧ ∀ t, Steps p.tables e below (T'.setTop { g with pc := g.pc + 3, stack := v.toList ++ rest }) t → Steps p.tables e below (T.setTop g) t := by
  obtain ⟨v, vm₁, ⟨T', L', k', n'⟩, -, X', ⟨L, hQ, e1, e2, e3⟩, st⟩ := Jvm.LawKit.callS X hx (y := y) hown (mvT hZ w1) (mvT hZ w2) (mvT hZ w3) (mvT hZ w4) hy (backOf (W := W) (hM []) hZ w4 w3 hf hl) hg hsize (argsL := argsL) (rest := rest) (lenOf hpd hpl) hstack hW hdg (fun _ _ => ⟨rfl, eT, hc, hs⟩)
  dsimp only [Pt.U, Pt.locs, Pt.cells, Pt.slots] at X' e1 e2 e3 st hQ
  subst e1 e2 e3
  exact ⟨T', L, v, X', hQ, st⟩
theorem own_callV (X : Stand p l e R s m args below meth c T locs cells slots) (hx : p.tables.exec = Jvm.exec) (hZ : Z.Warmed39 s.vm) {own C : String} {index : Nat} {y z : MethodName} {bytes : ByteArray} {maxL : Nat} {ret : Option FieldType} (hown : s.vm.findClass own = some m.cls)
    (w1 : (Jvm.Cond.methodLink own index y).before a0 Z = true) (w2 : (Jvm.Cond.declares y).before a0 Z = true) (w3 : (Jvm.Cond.selects y.cls y z).before a0 Z = true) (w3' : (Jvm.Cond.selects C y z).before a0 Z = true) (w4 : (Jvm.Cond.instanceMethod z).before a0 Z = true) (w5 : (Jvm.Cond.code z bytes maxL ret).before a0 Z = true) (w6 : (Jvm.Cond.initialized z.cls).before a0 Z = true) (hnf : NotFace s y)
    (hy : y.cls ≠ "java/lang/invoke/MethodHandle" ∧ y.cls ≠ "java/lang/invoke/VarHandle")
    {rm : Room} {a : Addr} {argsL rest : List Value} {Q : Option Value → Heap → List Loc → Prop} (hM : own_M l Z z bytes maxL ret rm (.ref a :: argsL).toArray h Q) (eT : T.heap = h) (E : Exa Z h a C) {g : JFrame} (hg : g.method = m) (hsize : g.locals.size = c.maxLocals) {ps : List FieldType} {r : Option FieldType} (hpd : parseMethodDescriptor y.desc = some ⟨ps, r⟩) (hpl : argsL.length = ps.length)
    (hstack : g.stack = argsL.reverse ++ .ref a :: rest) {W : Nat} (hW : 2 * g.monitorRoom + (rest.map fun v => v.category).sum ≤ W) (hdg : decode c.code g.pc = .ok (.invokevirtual index, 3)) (hf : rm.frames + 1 ≤ R.frames) (hl : W + (maxL + 11) + rm.locals ≤ R.locals) (hc : cells + rm.cells ≤ R.cells) (hs : slots + rm.slots ≤ R.slots) :
    ∃ (T' : State) (L : List Loc) (v : Option Value), Stand p l e R s m args below meth c T' (locs ++ L) (cells + rm.cells) (slots + rm.slots) ∧ Q v T'.heap L ∧ ∀ t, Steps p.tables e below (T'.setTop { g with pc := g.pc + 3, stack := v.toList ++ rest }) t → Steps p.tables e below (T.setTop g) t := by
  obtain ⟨cq, kq, qa, qb, qc⟩ := isOf hZ eT E
  obtain ⟨v, vm₁, ⟨T', L', k', n'⟩, -, X', ⟨L, hQ, e1, e2, e3⟩, st⟩ := X.virtualBack hx (y := y) (z := z) hown (mvT hZ w1) (mvT hZ w2) hnf (mvT hZ w3') (mvT hZ w4) hy (backOf (W := W) (hM []) hZ w5 w6 hf hl) qa qc hg hsize (Steps.refl _) (argsL := argsL) (rest := rest) (lenOf hpd hpl) hstack hW hdg (fun _ _ => ⟨rfl, eT, hc, hs⟩)
  dsimp only [Pt.U, Pt.locs, Pt.cells, Pt.slots] at X' e1 e2 e3 st hQ
  subst e1 e2 e3
  exact ⟨T', L, v, X', hQ, fun t k => st.trans k⟩
theorem own_callU (X : Stand p l e R s m args below meth c T locs cells slots) (hx : p.tables.exec = Jvm.exec) (hZ : Z.Warmed39 s.vm) {own C owner : String} {index : Nat} {y z : MethodName} {bytes : ByteArray} {maxL : Nat} {ret : Option FieldType} (hown : s.vm.findClass own = some m.cls)
    (w1 : (Jvm.Cond.methodLink own index y).before a0 Z = true) (w2 : (Jvm.Cond.sameMethod y.cls owner y.name y.desc).before a0 Z = true) (w2' : (Jvm.Cond.declares ⟨owner, y.name, y.desc⟩).before a0 Z = true) (w3 : (Jvm.Cond.selects C y z).before a0 Z = true) (w4 : (Jvm.Cond.instanceMethod z).before a0 Z = true) (w5 : (Jvm.Cond.code z bytes maxL ret).before a0 Z = true) (w6 : (Jvm.Cond.initialized z.cls).before a0 Z = true)
    (hy : owner ≠ "java/lang/invoke/MethodHandle" ∧ owner ≠ "java/lang/invoke/VarHandle")
    {rm : Room} {a : Addr} {argsL rest : List Value} {Q : Option Value → Heap → List Loc → Prop} (hM : own_M l Z z bytes maxL ret rm (.ref a :: argsL).toArray h Q) (eT : T.heap = h) (E : Exa Z h a C) {g : JFrame} (hg : g.method = m) (hsize : g.locals.size = c.maxLocals) {ps : List FieldType} {r : Option FieldType} (hpd : parseMethodDescriptor y.desc = some ⟨ps, r⟩) (hpl : argsL.length = ps.length)
    (hstack : g.stack = argsL.reverse ++ .ref a :: rest) {W : Nat} (hW : 2 * g.monitorRoom + (rest.map fun v => v.category).sum ≤ W) (hdg : decode c.code g.pc = .ok (.invokevirtual index, 3)) (hf : rm.frames + 1 ≤ R.frames) (hl : W + (maxL + 11) + rm.locals ≤ R.locals) (hc : cells + rm.cells ≤ R.cells) (hs : slots + rm.slots ≤ R.slots) :
    ∃ (T' : State) (L : List Loc) (v : Option Value), Stand p l e R s m args below meth c T' (locs ++ L) (cells + rm.cells) (slots + rm.slots) ∧ Q v T'.heap L ∧ ∀ t, Steps p.tables e below (T'.setTop { g with pc := g.pc + 3, stack := v.toList ++ rest }) t → Steps p.tables e below (T.setTop g) t := by
  obtain ⟨cq, kq, qa, qb, qc⟩ := isOf hZ eT E
  obtain ⟨v, vm₁, ⟨T', L', k', n'⟩, -, X', ⟨L, hQ, e1, e2, e3⟩, st⟩ := X.virtualBackUp hx (x := y) (y := z) hown (mvT hZ w1) (mvT hZ w2) (mvT hZ w2') hy (mvT hZ w3) (mvT hZ w4) (backOf (W := W) (hM []) hZ w5 w6 hf hl) qa qc hg hsize (Steps.refl _) (argsL := argsL) (rest := rest) (lenOf hpd hpl) hstack hW hdg (fun _ _ => ⟨rfl, eT, hc, hs⟩)
  dsimp only [Pt.U, Pt.locs, Pt.cells, Pt.slots] at X' e1 e2 e3 st hQ
  subst e1 e2 e3
  exact ⟨T', L, v, X', hQ, fun t k => st.trans k⟩
theorem own_neL {i K : Int32} {k : Int} (h : ¬ i = K) (hk : K.toInt = k) : k ≠ i.toInt := fun q => h (Int32.toInt_inj.mp (by rw [hk, q]))
abbrev own_cell (cA : ClassId) (vs : Array Value) : Cell := { cls := cA, slots := vs, vm := .none }
theorem own_in {cl : Cell} {j : Int32} {n : Nat} (hs : cl.slots.size = n) (hj : ¬ (j < 0 ∨ n ≤ j.toNatClampNeg)) : ¬ (j < 0 ∨ cl.slots.size ≤ j.toNatClampNeg) := by rw [hs]; exact hj
theorem own_ext_refl (h : Heap) : Ext h h := ⟨Nat.le_refl _, fun _ _ q => q⟩
theorem own_ext_trans {h0 h h' : Heap} (E : Ext h0 h) (E' : Ext h h') : Ext h0 h' := ⟨Nat.le_trans E.1 E'.1, fun a c q => E'.2 a c (E.2 a c q)⟩
theorem own_ext_eq {h0 h h' : Heap} (E : Ext h0 h) (q : h' = h) : Ext h0 h' := q ▸ E
theorem own_acVF {v w : Value} (q : v = w) : Jvm.Free.XT.acmp .ne v w = false := by subst q; simp [Jvm.Free.XT.acmp]
theorem own_ext_wr {h0 h h' : Heap} {a : Addr} {sl : Nat} {v : Value} (E : Ext h0 h) (W : Wr h h' a sl v) (q : h0.size ≤ a) : Ext h0 h' := by
  refine ⟨by rw [W.size]; exact E.1, fun x cx hx => ?_⟩
  obtain ⟨c', e1, -, -, -, e5, -⟩ := wr_at W (E.2 x cx hx)
  rw [← e5 (Nat.ne_of_lt (Nat.lt_of_lt_of_le (Array.getElem?_eq_some_iff.mp hx).1 q))]
  exact e1
theorem own_fld {t : Term} {a : Addr} {C n d : String} {k : Int32} (ev : t.eval args Z none [] Z = some (.ref a)) (w : (Jvm.Cond.eq (.field t C n d) (.int k)).value args Z none Z [] = some true) : Fld Z Z.heap a C n d (.int k) := by
  obtain ⟨x, y, e1, e2, k1, k2⟩ := cmp_v (Or.inl w)
  obtain rfl : y = .int k := (Option.some.inj e2).symm
  obtain ⟨z, rfl⟩ := k2
  have hz := gotT (Jvm.Cond.eq_ints e1 e2) w
  rw [fld_at ev] at e1
  rw [hz] at e1
  exact Fld.start e1
theorem own_len {t : Term} {a : Addr} {cl : Cell} {ty : FieldType} {k : Int32} (ev : t.eval args Z none [] Z = some (.ref a)) (A : Arr Z Z.heap a cl ty) (w : (Jvm.Cond.eq (.length t) (.int k)).value args Z none Z [] = some true) : cl.slots.size = k.toInt.toNat := by
  obtain ⟨x, y, e1, e2, k1, k2⟩ := cmp_v (Or.inl w)
  obtain rfl : y = .int k := (Option.some.inj e2).symm
  obtain ⟨z, rfl⟩ := k2
  have hz := gotT (Jvm.Cond.eq_ints e1 e2) w
  have hA : Z.arrayAt? a = some cl := Arr.fin (Vm.Alike.refl _) A
  by_cases hl : cl.slots.size < 2 ^ 31
  · rw [len_f ev hA hl] at e1
    have h1 : cl.slots.size.toInt32 = z := Value.int.inj (Option.some.inj e1)
    rw [← hz, ← h1, len_toInt hl]
    rfl
  · simp [Term.eval, ev, hA, hl] at e1
theorem own_elemI {t : Term} {a : Addr} {cl : Cell} {ty : FieldType} {j k : Int32} (ev : t.eval args Z none [] Z = some (.ref a)) (A : Arr Z Z.heap a cl ty) (w : (Jvm.Cond.eq (.elem t (.int j)) (.int k)).value args Z none Z [] = some true) : cl.slots[j.toNatClampNeg]? = some (.int k) := by
  obtain ⟨x, y, e1, e2, k1, k2⟩ := cmp_v (Or.inl w)
  obtain rfl : y = .int k := (Option.some.inj e2).symm
  obtain ⟨z, rfl⟩ := k2
  have hz := gotT (Jvm.Cond.eq_ints e1 e2) w
  rw [← hz]
  exact (elem_in e1 ev (Term.int_eval j) A.1).2
theorem own_elemR {t u : Term} {a b : Addr} {cl : Cell} {ty : FieldType} {j : Int32} (ev : t.eval args Z none [] Z = some (.ref a)) (A : Arr Z Z.heap a cl ty) (ev' : u.eval args Z none [] Z = some (.ref b)) (w : (Jvm.Cond.eq (.elem t (.int j)) u).value args Z none Z [] = some true) : cl.slots[j.toNatClampNeg]? = some (.ref b) := by
  obtain ⟨x, y, e1, e2, k1, k2⟩ := cmp_v (Or.inl w)
  obtain rfl : y = .ref b := (Option.some.inj (ev'.symm.trans e2)).symm
  have hz := gotT (eq_R e1 e2 k2.2 rfl) w
  rw [← hz]
  exact (elem_in e1 ev (Term.int_eval j) A.1).2
theorem own_neV {a b : Int32} (h : a ≠ b) : (Value.int a) ≠ Value.int b := fun q => h (Value.int.inj q)
theorem own_acT {a b : Addr} (h : a = b) : Jvm.Free.XT.acmp .eq (.ref a) (.ref b) = true := by subst h; simp [Jvm.Free.XT.acmp]
theorem own_acF {a b : Addr} (h : a ≠ b) : Jvm.Free.XT.acmp .eq (.ref a) (.ref b) = false := by simp [Jvm.Free.XT.acmp, h]
theorem own_acnT {a b : Addr} (h : a ≠ b) : Jvm.Free.XT.acmp .ne (.ref a) (.ref b) = true := by simp [Jvm.Free.XT.acmp, h]
theorem own_acnF {a b : Addr} (h : a = b) : Jvm.Free.XT.acmp .ne (.ref a) (.ref b) = false := by subst h; simp [Jvm.Free.XT.acmp]
theorem own_mask (x : Int32) : 0 ≤ (x &&& 2147483647).toInt := by
  have := Jvm.Kit.i32_mask x 2147483647 (k := 31) (by decide) (by decide)
  omega
theorem own_rem (y n : Int32) (h0 : 0 ≤ y.toInt) (hn : 0 < n.toInt) : 0 ≤ (y % n).toInt ∧ (y % n).toInt < n.toInt := by
  rw [Int32.toInt_mod]
  exact ⟨Int.tmod_nonneg _ h0, by
    have := Int.tmod_lt_of_pos y.toInt hn
    exact this⟩
end Own
end Jvm.Pilot.@@N@@
namespace Jvm.Pilot.@@N@@
open Jvm Jvm.ClassFile Sem Op Lib Jvm.Free Jvm.Stand Jvm.LawKit Jvm.RoadKit Bundle Jvm.Pilot.@@N@@.Jvm.D
def own_B (Z : State) (h : Heap) (a_FALSE a_TRUE a_UNDEFINED : Addr) : Prop := Sta Z h "com/example/sownd/sownd/model/TruthValue" "FALSE" "Lcom/example/sownd/sownd/model/TruthValue;" (.ref a_FALSE) ∧ Exa Z h a_FALSE "com/example/sownd/sownd/model/TruthValue" ∧ Sta Z h "com/example/sownd/sownd/model/TruthValue" "TRUE" "Lcom/example/sownd/sownd/model/TruthValue;" (.ref a_TRUE) ∧ Exa Z h a_TRUE "com/example/sownd/sownd/model/TruthValue" ∧ Fld Z h a_FALSE "java/lang/Enum" "ordinal" "I" (.int (1 : Int32)) ∧ Fld Z h a_TRUE "java/lang/Enum" "ordinal" "I" (.int (0 : Int32)) ∧ Sta Z h "com/example/sownd/sownd/model/TruthValue" "UNDEFINED" "Lcom/example/sownd/sownd/model/TruthValue;" (.ref a_UNDEFINED) ∧ Exa Z h a_UNDEFINED "com/example/sownd/sownd/model/TruthValue" ∧ Fld Z h a_UNDEFINED "java/lang/Enum" "ordinal" "I" (.int (2 : Int32))
theorem own_B_ext {Z : State} {h h' : Heap} {a_FALSE a_TRUE a_UNDEFINED : Addr} (E : Ext h h') (B : own_B Z h a_FALSE a_TRUE a_UNDEFINED) : own_B Z h' a_FALSE a_TRUE a_UNDEFINED := by
  obtain ⟨S_FALSE, E_FALSE, S_TRUE, E_TRUE, F_FALSE_ordinal, F_TRUE_ordinal, S_UNDEFINED, E_UNDEFINED, F_UNDEFINED_ordinal⟩ := B
  exact ⟨S_FALSE.ext E, E_FALSE.ext E, S_TRUE.ext E, E_TRUE.ext E, F_FALSE_ordinal.ext E, F_TRUE_ordinal.ext E, S_UNDEFINED.ext E, E_UNDEFINED.ext E, F_UNDEFINED_ordinal.ext E⟩
theorem own_l3 (z : Int32) (h0 : 0 ≤ z.toInt) (h1 : z.toInt ≤ 2) : z = (0 : Int32) ∨ z = (1 : Int32) ∨ z = (2 : Int32) := by
  simp only [← Int32.toInt_inj]
  change z.toInt = 0 ∨ z.toInt = 1 ∨ z.toInt = 2
  omega
def own_pick (a_FALSE a_TRUE a_UNDEFINED : Addr) (k1 : Int32) : Addr := (if k1 = (0 : Int32) then a_FALSE else (if k1 = (1 : Int32) then a_UNDEFINED else a_TRUE))
theorem d1_0 : decode method_2_code 0 = .ok (.iload_n 0, 1) := by decide +kernel
theorem d1_1 : decode method_2_code 1 = .ok (.ifCond .ne 7, 3) := by decide +kernel
theorem d1_4 : decode method_2_code 4 = .ok (.getstatic 7, 3) := by decide +kernel
theorem d1_7 : decode method_2_code 7 = .ok (.areturn, 1) := by decide +kernel
theorem d1_8 : decode method_2_code 8 = .ok (.iload_n 0, 1) := by decide +kernel
theorem d1_9 : decode method_2_code 9 = .ok (.iconst 1, 1) := by decide +kernel
theorem d1_10 : decode method_2_code 10 = .ok (.if_icmp .ne 7, 3) := by decide +kernel
theorem d1_13 : decode method_2_code 13 = .ok (.getstatic 13, 3) := by decide +kernel
theorem d1_16 : decode method_2_code 16 = .ok (.areturn, 1) := by decide +kernel
theorem d1_17 : decode method_2_code 17 = .ok (.getstatic 16, 3) := by decide +kernel
theorem d1_20 : decode method_2_code 20 = .ok (.areturn, 1) := by decide +kernel
theorem pn_1 : plainFor (⟨"com/example/sownd/sownd/model/TruthValueOrPinLaw", "pick", "(I)Lcom/example/sownd/sownd/model/TruthValue;"⟩ : MethodName) = true := by first | exact plainFor_of_name (by first | (simp [plainName, overriddenIn]; done) | decide +kernel) | decide +kernel
set_option maxRecDepth 65536 in
set_option maxHeartbeats 40000000 in
theorem c_pick (l : Launch) (Z : State) (a0 : Array Value) (hw : ∀ d ∈ tables_1, d.before a0 Z = true) (a_FALSE a_TRUE a_UNDEFINED : Addr) (k1 : Int32) (h0 : Heap) (B : own_B Z h0 a_FALSE a_TRUE a_UNDEFINED) :
    own_M l Z (⟨"com/example/sownd/sownd/model/TruthValueOrPinLaw", "pick", "(I)Lcom/example/sownd/sownd/model/TruthValue;"⟩ : MethodName) method_2_code 1 (some (.object "com/example/sownd/sownd/model/TruthValue")) ⟨0, 0, 0, 0⟩ #[.int k1] h0 (fun v h L => v = some (.ref (own_pick a_FALSE a_TRUE a_UNDEFINED k1)) ∧ L = [] ∧ h = h0) := by
  refine own_body pn_1 ?_
  intro p e s m below meth c T0 hx hby hml hlk hown hret hnm hZ X0 e0
  replace hown : s.vm.findClass "com/example/sownd/sownd/model/TruthValueOrPinLaw" = some m.cls := hown
  replace hml : c.maxLocals = 1 := hml
  obtain ⟨S_FALSE, E_FALSE, S_TRUE, E_TRUE, F_FALSE_ordinal, F_TRUE_ordinal, S_UNDEFINED, E_UNDEFINED, F_UNDEFINED_ordinal⟩ := id B
  have ef : entryFrame m #[.int k1] 1 = (mkF m 0 #[.val (.int k1)] []) := by first | (simp [entryFrame, mkF, argsToLocals, Value.category]; done) | rfl
  rw [ef]
  refine own_go (fun t k => XS.iloadN X0.here hx rfl (hb hby d1_0) rfl k) ?_
  show own_G p e below _ T0 (mkF m 1 #[.val (.int k1)] [(.int k1)])
  by_cases hc1 : k1 = (0 : Int32)
  ·
    refine own_go (fun t k => XS.ifNo X0.here hx rfl (hb hby d1_1) rfl (Jvm.Free.XT.i0_ne_f hc1) k) ?_
    show own_G p e below _ T0 (mkF m 4 #[.val (.int k1)] [])
    obtain ⟨T2, X2, e2, st2⟩ := getS X0 hx hZ hown (host := "") (hw _ (List.mem_of_getElem? (i := 5) rfl)) Via.refl e0 S_FALSE (g := (mkF m 4 #[.val (.int k1)] [])) rfl (hb hby d1_4)
    refine own_go st2 ?_
    show own_G p e below _ T2 (mkF m 7 #[.val (.int k1)] [(.ref a_FALSE)])
    exact own_retA X2 hx hlk hret rfl rfl (hb hby d1_7) (by decide) (by decide) ⟨congrArg some (congrArg Value.ref (Eq.symm (show (own_pick a_FALSE a_TRUE a_UNDEFINED k1) = a_FALSE from (by unfold own_pick; rw [if_pos hc1])))), rfl, e2⟩
  ·
    refine own_go (fun t k => XS.ifYes X0.here hx rfl (pc0 := 1) (pc' := 8) rfl (hb hby d1_1) rfl (Jvm.Free.XT.i0_ne_t hc1) (by decide) (by decide) k) ?_
    show own_G p e below _ T0 (mkF m 8 #[.val (.int k1)] [])
    refine own_go (fun t k => XS.iloadN X0.here hx rfl (hb hby d1_8) rfl k) ?_
    show own_G p e below _ T0 (mkF m 9 #[.val (.int k1)] [(.int k1)])
    refine own_go (fun t k => XS.iconst X0.here hx rfl (hb hby d1_9) k) ?_
    show own_G p e below _ T0 (mkF m 10 #[.val (.int k1)] [(.int (1 : Int32)), (.int k1)])
    by_cases hc3 : k1 = (1 : Int32)
    ·
      refine own_go (fun t k => XS.icmpNo X0.here hx rfl (hb hby d1_10) rfl (Jvm.Free.XT.ii_ne_f hc3) k) ?_
      show own_G p e below _ T0 (mkF m 13 #[.val (.int k1)] [])
      obtain ⟨T4, X4, e4, st4⟩ := getS X0 hx hZ hown (host := "") (hw _ (List.mem_of_getElem? (i := 23) rfl)) Via.refl e0 S_UNDEFINED (g := (mkF m 13 #[.val (.int k1)] [])) rfl (hb hby d1_13)
      refine own_go st4 ?_
      show own_G p e below _ T4 (mkF m 16 #[.val (.int k1)] [(.ref a_UNDEFINED)])
      exact own_retA X4 hx hlk hret rfl rfl (hb hby d1_16) (by decide) (by decide) ⟨congrArg some (congrArg Value.ref (Eq.symm (show (own_pick a_FALSE a_TRUE a_UNDEFINED k1) = a_UNDEFINED from (by unfold own_pick; rw [if_neg hc1, if_pos hc3])))), rfl, e4⟩
    ·
      refine own_go (fun t k => XS.icmpYes X0.here hx rfl (pc0 := 10) (pc' := 17) rfl (hb hby d1_10) rfl (Jvm.Free.XT.ii_ne_t hc3) (by decide) (by decide) k) ?_
      show own_G p e below _ T0 (mkF m 17 #[.val (.int k1)] [])
      obtain ⟨T5, X5, e5, st5⟩ := getS X0 hx hZ hown (host := "") (hw _ (List.mem_of_getElem? (i := 22) rfl)) Via.refl e0 S_TRUE (g := (mkF m 17 #[.val (.int k1)] [])) rfl (hb hby d1_17)
      refine own_go st5 ?_
      show own_G p e below _ T5 (mkF m 20 #[.val (.int k1)] [(.ref a_TRUE)])
      exact own_retA X5 hx hlk hret rfl rfl (hb hby d1_20) (by decide) (by decide) ⟨congrArg some (congrArg Value.ref (Eq.symm (show (own_pick a_FALSE a_TRUE a_UNDEFINED k1) = a_TRUE from (by unfold own_pick; rw [if_neg hc1, if_neg hc3])))), rfl, e5⟩
def own_op (a_FALSE a_TRUE a_UNDEFINED : Addr) (a1 : Addr) (b1 : Addr) : Addr := (if a1 = a_TRUE then a_TRUE else (if b1 = a_TRUE then a_TRUE else (if a1 = a_UNDEFINED then a_UNDEFINED else (if b1 = a_UNDEFINED then a_UNDEFINED else a_FALSE))))
theorem d2_0 : decode prog_59_method_7_code 0 = .ok (.aload_n 0, 1) := by decide +kernel
theorem d2_1 : decode prog_59_method_7_code 1 = .ok (.getstatic 3, 3) := by decide +kernel
theorem d2_4 : decode prog_59_method_7_code 4 = .ok (.if_acmp .eq 10, 3) := by decide +kernel
theorem d2_7 : decode prog_59_method_7_code 7 = .ok (.aload_n 1, 1) := by decide +kernel
theorem d2_8 : decode prog_59_method_7_code 8 = .ok (.getstatic 3, 3) := by decide +kernel
theorem d2_11 : decode prog_59_method_7_code 11 = .ok (.if_acmp .ne 7, 3) := by decide +kernel
theorem d2_14 : decode prog_59_method_7_code 14 = .ok (.getstatic 3, 3) := by decide +kernel
theorem d2_17 : decode prog_59_method_7_code 17 = .ok (.areturn, 1) := by decide +kernel
theorem d2_18 : decode prog_59_method_7_code 18 = .ok (.aload_n 0, 1) := by decide +kernel
theorem d2_19 : decode prog_59_method_7_code 19 = .ok (.getstatic 10, 3) := by decide +kernel
theorem d2_22 : decode prog_59_method_7_code 22 = .ok (.if_acmp .eq 10, 3) := by decide +kernel
theorem d2_25 : decode prog_59_method_7_code 25 = .ok (.aload_n 1, 1) := by decide +kernel
theorem d2_26 : decode prog_59_method_7_code 26 = .ok (.getstatic 10, 3) := by decide +kernel
theorem d2_29 : decode prog_59_method_7_code 29 = .ok (.if_acmp .ne 7, 3) := by decide +kernel
theorem d2_32 : decode prog_59_method_7_code 32 = .ok (.getstatic 10, 3) := by decide +kernel
theorem d2_35 : decode prog_59_method_7_code 35 = .ok (.areturn, 1) := by decide +kernel
theorem d2_36 : decode prog_59_method_7_code 36 = .ok (.getstatic 7, 3) := by decide +kernel
theorem d2_39 : decode prog_59_method_7_code 39 = .ok (.areturn, 1) := by decide +kernel
theorem pn_2 : plainFor (⟨"com/example/sownd/sownd/model/TruthValue", "or", "(Lcom/example/sownd/sownd/model/TruthValue;)Lcom/example/sownd/sownd/model/TruthValue;"⟩ : MethodName) = true := by first | exact plainFor_of_name (by first | (simp [plainName, overriddenIn]; done) | decide +kernel) | decide +kernel
set_option maxRecDepth 65536 in
set_option maxHeartbeats 40000000 in
theorem c_op (l : Launch) (Z : State) (a0 : Array Value) (hw : ∀ d ∈ tables_1, d.before a0 Z = true) (a_FALSE a_TRUE a_UNDEFINED : Addr) (a1 : Addr) (b1 : Addr) (h0 : Heap) (B : own_B Z h0 a_FALSE a_TRUE a_UNDEFINED) :
    own_M l Z (⟨"com/example/sownd/sownd/model/TruthValue", "or", "(Lcom/example/sownd/sownd/model/TruthValue;)Lcom/example/sownd/sownd/model/TruthValue;"⟩ : MethodName) prog_59_method_7_code 2 (some (.object "com/example/sownd/sownd/model/TruthValue")) ⟨0, 0, 0, 0⟩ #[.ref a1, .ref b1] h0 (fun v h L => v = some (.ref (own_op a_FALSE a_TRUE a_UNDEFINED a1 b1)) ∧ L = [] ∧ h = h0) := by
  refine own_body pn_2 ?_
  intro p e s m below meth c T0 hx hby hml hlk hown hret hnm hZ X0 e0
  replace hown : s.vm.findClass "com/example/sownd/sownd/model/TruthValue" = some m.cls := hown
  replace hml : c.maxLocals = 2 := hml
  obtain ⟨S_FALSE, E_FALSE, S_TRUE, E_TRUE, F_FALSE_ordinal, F_TRUE_ordinal, S_UNDEFINED, E_UNDEFINED, F_UNDEFINED_ordinal⟩ := id B
  have ef : entryFrame m #[.ref a1, .ref b1] 2 = (mkF m 0 #[.val (.ref a1), .val (.ref b1)] []) := by first | (simp [entryFrame, mkF, argsToLocals, Value.category]; done) | rfl
  rw [ef]
  refine own_go (fun t k => XS.aloadN X0.here hx rfl (hb hby d2_0) rfl rfl k) ?_
  show own_G p e below _ T0 (mkF m 1 #[.val (.ref a1), .val (.ref b1)] [(.ref a1)])
  obtain ⟨T1, X1, e1, st1⟩ := getS X0 hx hZ hown (host := "") (hw _ (List.mem_of_getElem? (i := 13) rfl)) Via.refl e0 S_TRUE (g := (mkF m 1 #[.val (.ref a1), .val (.ref b1)] [(.ref a1)])) rfl (hb hby d2_1)
  refine own_go st1 ?_
  show own_G p e below _ T1 (mkF m 4 #[.val (.ref a1), .val (.ref b1)] [(.ref a_TRUE), (.ref a1)])
  by_cases hc2 : a1 = a_TRUE
  ·
    refine own_go (fun t k => Jvm.Free.XT.acmpYes X1.here hx rfl (pc0 := 4) (pc' := 14) rfl (hb hby d2_4) rfl rfl rfl (own_acT hc2) (by decide) (by decide) k) ?_
    show own_G p e below _ T1 (mkF m 14 #[.val (.ref a1), .val (.ref b1)] [])
    obtain ⟨T3, X3, e3, st3⟩ := getS X1 hx hZ hown (host := "") (hw _ (List.mem_of_getElem? (i := 13) rfl)) Via.refl e1 S_TRUE (g := (mkF m 14 #[.val (.ref a1), .val (.ref b1)] [])) rfl (hb hby d2_14)
    refine own_go st3 ?_
    show own_G p e below _ T3 (mkF m 17 #[.val (.ref a1), .val (.ref b1)] [(.ref a_TRUE)])
    exact own_retA X3 hx hlk hret rfl rfl (hb hby d2_17) (by decide) (by decide) ⟨congrArg some (congrArg Value.ref (Eq.symm (show (own_op a_FALSE a_TRUE a_UNDEFINED a1 b1) = a_TRUE from (by unfold own_op; rw [if_pos hc2])))), rfl, e3⟩
  ·
    refine own_go (fun t k => Jvm.Free.XT.acmpNo X1.here hx rfl (hb hby d2_4) rfl rfl rfl (own_acF hc2) k) ?_
    show own_G p e below _ T1 (mkF m 7 #[.val (.ref a1), .val (.ref b1)] [])
    refine own_go (fun t k => XS.aloadN X1.here hx rfl (hb hby d2_7) rfl rfl k) ?_
    show own_G p e below _ T1 (mkF m 8 #[.val (.ref a1), .val (.ref b1)] [(.ref b1)])
    obtain ⟨T4, X4, e4, st4⟩ := getS X1 hx hZ hown (host := "") (hw _ (List.mem_of_getElem? (i := 13) rfl)) Via.refl e1 S_TRUE (g := (mkF m 8 #[.val (.ref a1), .val (.ref b1)] [(.ref b1)])) rfl (hb hby d2_8)
    refine own_go st4 ?_
    show own_G p e below _ T4 (mkF m 11 #[.val (.ref a1), .val (.ref b1)] [(.ref a_TRUE), (.ref b1)])
    by_cases hc5 : b1 = a_TRUE
    ·
      refine own_go (fun t k => Jvm.Free.XT.acmpNo X4.here hx rfl (hb hby d2_11) rfl rfl rfl (own_acnF hc5) k) ?_
      show own_G p e below _ T4 (mkF m 14 #[.val (.ref a1), .val (.ref b1)] [])
      obtain ⟨T6, X6, e6, st6⟩ := getS X4 hx hZ hown (host := "") (hw _ (List.mem_of_getElem? (i := 13) rfl)) Via.refl e4 S_TRUE (g := (mkF m 14 #[.val (.ref a1), .val (.ref b1)] [])) rfl (hb hby d2_14)
      refine own_go st6 ?_
      show own_G p e below _ T6 (mkF m 17 #[.val (.ref a1), .val (.ref b1)] [(.ref a_TRUE)])
      exact own_retA X6 hx hlk hret rfl rfl (hb hby d2_17) (by decide) (by decide) ⟨congrArg some (congrArg Value.ref (Eq.symm (show (own_op a_FALSE a_TRUE a_UNDEFINED a1 b1) = a_TRUE from (by unfold own_op; rw [if_neg hc2, if_pos hc5])))), rfl, e6⟩
    ·
      refine own_go (fun t k => Jvm.Free.XT.acmpYes X4.here hx rfl (pc0 := 11) (pc' := 18) rfl (hb hby d2_11) rfl rfl rfl (own_acnT hc5) (by decide) (by decide) k) ?_
      show own_G p e below _ T4 (mkF m 18 #[.val (.ref a1), .val (.ref b1)] [])
      refine own_go (fun t k => XS.aloadN X4.here hx rfl (hb hby d2_18) rfl rfl k) ?_
      show own_G p e below _ T4 (mkF m 19 #[.val (.ref a1), .val (.ref b1)] [(.ref a1)])
      obtain ⟨T7, X7, e7, st7⟩ := getS X4 hx hZ hown (host := "") (hw _ (List.mem_of_getElem? (i := 15) rfl)) Via.refl e4 S_UNDEFINED (g := (mkF m 19 #[.val (.ref a1), .val (.ref b1)] [(.ref a1)])) rfl (hb hby d2_19)
      refine own_go st7 ?_
      show own_G p e below _ T7 (mkF m 22 #[.val (.ref a1), .val (.ref b1)] [(.ref a_UNDEFINED), (.ref a1)])
      by_cases hc8 : a1 = a_UNDEFINED
      ·
        refine own_go (fun t k => Jvm.Free.XT.acmpYes X7.here hx rfl (pc0 := 22) (pc' := 32) rfl (hb hby d2_22) rfl rfl rfl (own_acT hc8) (by decide) (by decide) k) ?_
        show own_G p e below _ T7 (mkF m 32 #[.val (.ref a1), .val (.ref b1)] [])
        obtain ⟨T9, X9, e9, st9⟩ := getS X7 hx hZ hown (host := "") (hw _ (List.mem_of_getElem? (i := 15) rfl)) Via.refl e7 S_UNDEFINED (g := (mkF m 32 #[.val (.ref a1), .val (.ref b1)] [])) rfl (hb hby d2_32)
        refine own_go st9 ?_
        show own_G p e below _ T9 (mkF m 35 #[.val (.ref a1), .val (.ref b1)] [(.ref a_UNDEFINED)])
        exact own_retA X9 hx hlk hret rfl rfl (hb hby d2_35) (by decide) (by decide) ⟨congrArg some (congrArg Value.ref (Eq.symm (show (own_op a_FALSE a_TRUE a_UNDEFINED a1 b1) = a_UNDEFINED from (by unfold own_op; rw [if_neg hc2, if_neg hc5, if_pos hc8])))), rfl, e9⟩
      ·
        refine own_go (fun t k => Jvm.Free.XT.acmpNo X7.here hx rfl (hb hby d2_22) rfl rfl rfl (own_acF hc8) k) ?_
        show own_G p e below _ T7 (mkF m 25 #[.val (.ref a1), .val (.ref b1)] [])
        refine own_go (fun t k => XS.aloadN X7.here hx rfl (hb hby d2_25) rfl rfl k) ?_
        show own_G p e below _ T7 (mkF m 26 #[.val (.ref a1), .val (.ref b1)] [(.ref b1)])
        obtain ⟨T10, X10, e10, st10⟩ := getS X7 hx hZ hown (host := "") (hw _ (List.mem_of_getElem? (i := 15) rfl)) Via.refl e7 S_UNDEFINED (g := (mkF m 26 #[.val (.ref a1), .val (.ref b1)] [(.ref b1)])) rfl (hb hby d2_26)
        refine own_go st10 ?_
        show own_G p e below _ T10 (mkF m 29 #[.val (.ref a1), .val (.ref b1)] [(.ref a_UNDEFINED), (.ref b1)])
        by_cases hc11 : b1 = a_UNDEFINED
        ·
          refine own_go (fun t k => Jvm.Free.XT.acmpNo X10.here hx rfl (hb hby d2_29) rfl rfl rfl (own_acnF hc11) k) ?_
          show own_G p e below _ T10 (mkF m 32 #[.val (.ref a1), .val (.ref b1)] [])
          obtain ⟨T12, X12, e12, st12⟩ := getS X10 hx hZ hown (host := "") (hw _ (List.mem_of_getElem? (i := 15) rfl)) Via.refl e10 S_UNDEFINED (g := (mkF m 32 #[.val (.ref a1), .val (.ref b1)] [])) rfl (hb hby d2_32)
          refine own_go st12 ?_
          show own_G p e below _ T12 (mkF m 35 #[.val (.ref a1), .val (.ref b1)] [(.ref a_UNDEFINED)])
          exact own_retA X12 hx hlk hret rfl rfl (hb hby d2_35) (by decide) (by decide) ⟨congrArg some (congrArg Value.ref (Eq.symm (show (own_op a_FALSE a_TRUE a_UNDEFINED a1 b1) = a_UNDEFINED from (by unfold own_op; rw [if_neg hc2, if_neg hc5, if_neg hc8, if_pos hc11])))), rfl, e12⟩
        ·
          refine own_go (fun t k => Jvm.Free.XT.acmpYes X10.here hx rfl (pc0 := 29) (pc' := 36) rfl (hb hby d2_29) rfl rfl rfl (own_acnT hc11) (by decide) (by decide) k) ?_
          show own_G p e below _ T10 (mkF m 36 #[.val (.ref a1), .val (.ref b1)] [])
          obtain ⟨T13, X13, e13, st13⟩ := getS X10 hx hZ hown (host := "") (hw _ (List.mem_of_getElem? (i := 17) rfl)) Via.refl e10 S_FALSE (g := (mkF m 36 #[.val (.ref a1), .val (.ref b1)] [])) rfl (hb hby d2_36)
          refine own_go st13 ?_
          show own_G p e below _ T13 (mkF m 39 #[.val (.ref a1), .val (.ref b1)] [(.ref a_FALSE)])
          exact own_retA X13 hx hlk hret rfl rfl (hb hby d2_39) (by decide) (by decide) ⟨congrArg some (congrArg Value.ref (Eq.symm (show (own_op a_FALSE a_TRUE a_UNDEFINED a1 b1) = a_FALSE from (by unfold own_op; rw [if_neg hc2, if_neg hc5, if_neg hc8, if_neg hc11])))), rfl, e13⟩
def own_mm  (x1 : Int32) (y1 : Int32) : Int32 := (if x1 < y1 then y1 else x1)
theorem d3_0 : decode jdk_29_method_65_code 0 = .ok (.iload_n 0, 1) := by decide +kernel
theorem d3_1 : decode jdk_29_method_65_code 1 = .ok (.iload_n 1, 1) := by decide +kernel
theorem d3_2 : decode jdk_29_method_65_code 2 = .ok (.if_icmp .lt 7, 3) := by decide +kernel
theorem d3_5 : decode jdk_29_method_65_code 5 = .ok (.iload_n 0, 1) := by decide +kernel
theorem d3_6 : decode jdk_29_method_65_code 6 = .ok (.goto 4, 3) := by decide +kernel
theorem d3_9 : decode jdk_29_method_65_code 9 = .ok (.iload_n 1, 1) := by decide +kernel
theorem d3_10 : decode jdk_29_method_65_code 10 = .ok (.ireturn, 1) := by decide +kernel
theorem pn_3 : plainFor (⟨"java/lang/Math", "max", "(II)I"⟩ : MethodName) = true := by first | exact plainFor_of_name (by first | (simp [plainName, overriddenIn]; done) | decide +kernel) | decide +kernel
set_option maxRecDepth 65536 in
set_option maxHeartbeats 40000000 in
theorem c_mm (l : Launch) (Z : State) (a0 : Array Value) (hw : ∀ d ∈ tables_1, d.before a0 Z = true)  (x1 : Int32) (y1 : Int32) (h0 : Heap)  :
    own_M l Z (⟨"java/lang/Math", "max", "(II)I"⟩ : MethodName) jdk_29_method_65_code 2 (some .int) ⟨0, 0, 0, 0⟩ #[.int x1, .int y1] h0 (fun v h L => v = some (.int (own_mm x1 y1)) ∧ L = [] ∧ h = h0) := by
  refine own_body pn_3 ?_
  intro p e s m below meth c T0 hx hby hml hlk hown hret hnm hZ X0 e0
  replace hown : s.vm.findClass "java/lang/Math" = some m.cls := hown
  replace hml : c.maxLocals = 2 := hml
  have ef : entryFrame m #[.int x1, .int y1] 2 = (mkF m 0 #[.val (.int x1), .val (.int y1)] []) := by first | (simp [entryFrame, mkF, argsToLocals, Value.category]; done) | rfl
  rw [ef]
  refine own_go (fun t k => XS.iloadN X0.here hx rfl (hb hby d3_0) rfl k) ?_
  show own_G p e below _ T0 (mkF m 1 #[.val (.int x1), .val (.int y1)] [(.int x1)])
  refine own_go (fun t k => XS.iloadN X0.here hx rfl (hb hby d3_1) rfl k) ?_
  show own_G p e below _ T0 (mkF m 2 #[.val (.int x1), .val (.int y1)] [(.int y1), (.int x1)])
  by_cases hc1 : x1 < y1
  ·
    refine own_go (fun t k => XS.icmpYes X0.here hx rfl (pc0 := 2) (pc' := 9) rfl (hb hby d3_2) rfl (Jvm.Free.XT.ii_lt_t hc1) (by decide) (by decide) k) ?_
    show own_G p e below _ T0 (mkF m 9 #[.val (.int x1), .val (.int y1)] [])
    refine own_go (fun t k => XS.iloadN X0.here hx rfl (hb hby d3_9) rfl k) ?_
    show own_G p e below _ T0 (mkF m 10 #[.val (.int x1), .val (.int y1)] [(.int y1)])
    exact own_retI X0 hx hlk hret (hb hby d3_10) (by decide) (by decide) ⟨congrArg some (congrArg Value.int (Eq.symm (show (own_mm x1 y1) = y1 from (by unfold own_mm; rw [if_pos hc1])))), rfl, e0⟩
  ·
    refine own_go (fun t k => XS.icmpNo X0.here hx rfl (hb hby d3_2) rfl (Jvm.Free.XT.ii_lt_f hc1) k) ?_
    show own_G p e below _ T0 (mkF m 5 #[.val (.int x1), .val (.int y1)] [])
    refine own_go (fun t k => XS.iloadN X0.here hx rfl (hb hby d3_5) rfl k) ?_
    show own_G p e below _ T0 (mkF m 6 #[.val (.int x1), .val (.int y1)] [(.int x1)])
    refine own_go (fun t k => XS.goto X0.here hx rfl (pc0 := 6) (pc' := 10) rfl (hb hby d3_6) (by decide) (by decide) k) ?_
    show own_G p e below _ T0 (mkF m 10 #[.val (.int x1), .val (.int y1)] [(.int x1)])
    exact own_retI X0 hx hlk hret (hb hby d3_10) (by decide) (by decide) ⟨congrArg some (congrArg Value.int (Eq.symm (show (own_mm x1 y1) = x1 from (by unfold own_mm; rw [if_neg hc1])))), rfl, e0⟩
theorem pn_0 : plainFor x = true := by first | exact plainFor_of_name (by first | (simp [plainName, overriddenIn]; done) | decide +kernel) | decide +kernel
set_option maxRecDepth 65536 in
set_option maxHeartbeats 40000000 in
theorem rm0 (l : Launch) (Z : State) (a0 : Array Value) (hw : ∀ d ∈ tables_1, d.before a0 Z = true) (i0 i1 : Int32) (a_FALSE a_TRUE a_UNDEFINED : Addr) (h0 : Heap) (n0 : Nat) (Z0 : n0 ≤ h0.size) (B : own_B Z h0 a_FALSE a_TRUE a_UNDEFINED) :
    own_M l Z x code maxLocals ret room_1 #[.int i0, .int i1] h0 (fun v h L => v = some (.int 1) ∧ Fr n0 L) := by
  refine own_body pn_0 ?_
  intro p e s m below meth c T0 hx hby hml hlk hown hret hnm hZ X0 e0
  replace hown : s.vm.findClass "com/example/sownd/sownd/model/TruthValueOrPinLaw" = some m.cls := hown
  replace hml : c.maxLocals = 7 := hml
  replace hret : meth.sig.returnType = some .boolean := hret
  obtain ⟨S_FALSE, E_FALSE, S_TRUE, E_TRUE, F_FALSE_ordinal, F_TRUE_ordinal, S_UNDEFINED, E_UNDEFINED, F_UNDEFINED_ordinal⟩ := id B
  have hk := own_l3 ((i0 &&& (2147483647 : Int32)) % (3 : Int32)) (own_rem _ 3 (own_mask i0) (by decide)).1 (Int.lt_add_one_iff.mp (own_rem _ 3 (own_mask i0) (by decide)).2)
  have hf := own_l3 ((i1 &&& (2147483647 : Int32)) % (3 : Int32)) (own_rem _ 3 (own_mask i1) (by decide)).1 (Int.lt_add_one_iff.mp (own_rem _ 3 (own_mask i1) (by decide)).2)
  have N0 := Fr.nil n0
  have ef : entryFrame m #[.int i0, .int i1] maxLocals = (mkF m 0 #[.val (.int i0), .val (.int i1), .unset, .unset, .unset, .unset, .unset] []) := by first | (simp [entryFrame, mkF, argsToLocals, Value.category, maxLocals]; done) | rfl
  rw [ef]
  refine own_go (fun t k => XS.iloadN X0.here hx rfl (hb hby at_0) rfl k) ?_
  show own_G p e below _ T0 (mkF m 1 #[.val (.int i0), .val (.int i1), .unset, .unset, .unset, .unset, .unset] [(.int i0)])
  refine own_go (X0.ldcInt hx hown (mvT hZ (hw _ (List.mem_of_getElem? (i := 0) rfl))) (g := (mkF m 1 #[.val (.int i0), .val (.int i1), .unset, .unset, .unset, .unset, .unset] [(.int i0)])) rfl (hb hby at_1)) ?_
  show own_G p e below _ T0 (mkF m 3 #[.val (.int i0), .val (.int i1), .unset, .unset, .unset, .unset, .unset] [(.int (2147483647 : Int32)), (.int i0)])
  refine own_go (fun t k => XS.iand X0.here hx rfl (hb hby at_3) rfl k) ?_
  show own_G p e below _ T0 (mkF m 4 #[.val (.int i0), .val (.int i1), .unset, .unset, .unset, .unset, .unset] [(.int (i0 &&& (2147483647 : Int32)))])
  refine own_go (fun t k => XS.iconst X0.here hx rfl (hb hby at_4) k) ?_
  show own_G p e below _ T0 (mkF m 5 #[.val (.int i0), .val (.int i1), .unset, .unset, .unset, .unset, .unset] [(.int (3 : Int32)), (.int (i0 &&& (2147483647 : Int32)))])
  refine own_go (fun t k => iremM X0 hx rfl (hb hby at_5) rfl (by decide) k) ?_
  show own_G p e below _ T0 (mkF m 6 #[.val (.int i0), .val (.int i1), .unset, .unset, .unset, .unset, .unset] [(.int ((i0 &&& (2147483647 : Int32)) % (3 : Int32)))])
  rcases hk with hk1 | hk1 | hk1
  · rw [hk1]
    show own_G p e below _ T0 (mkF m 6 #[.val (.int i0), .val (.int i1), .unset, .unset, .unset, .unset, .unset] [(.int (0 : Int32))])
    refine own_go (fun t k => XS.istoreN X0.here hx rfl (hb hby at_6) rfl (l' := #[.val (.int i0), .val (.int i1), .val (.int (0 : Int32)), .unset, .unset, .unset, .unset]) rfl k) ?_
    show own_G p e below _ T0 (mkF m 7 #[.val (.int i0), .val (.int i1), .val (.int (0 : Int32)), .unset, .unset, .unset, .unset] [])
    refine own_go (fun t k => XS.iloadN X0.here hx rfl (hb hby at_7) rfl k) ?_
    show own_G p e below _ T0 (mkF m 8 #[.val (.int i0), .val (.int i1), .val (.int (0 : Int32)), .unset, .unset, .unset, .unset] [(.int i1)])
    refine own_go (X0.ldcInt hx hown (mvT hZ (hw _ (List.mem_of_getElem? (i := 0) rfl))) (g := (mkF m 8 #[.val (.int i0), .val (.int i1), .val (.int (0 : Int32)), .unset, .unset, .unset, .unset] [(.int i1)])) rfl (hb hby at_8)) ?_
    show own_G p e below _ T0 (mkF m 10 #[.val (.int i0), .val (.int i1), .val (.int (0 : Int32)), .unset, .unset, .unset, .unset] [(.int (2147483647 : Int32)), (.int i1)])
    refine own_go (fun t k => XS.iand X0.here hx rfl (hb hby at_10) rfl k) ?_
    show own_G p e below _ T0 (mkF m 11 #[.val (.int i0), .val (.int i1), .val (.int (0 : Int32)), .unset, .unset, .unset, .unset] [(.int (i1 &&& (2147483647 : Int32)))])
    refine own_go (fun t k => XS.iconst X0.here hx rfl (hb hby at_11) k) ?_
    show own_G p e below _ T0 (mkF m 12 #[.val (.int i0), .val (.int i1), .val (.int (0 : Int32)), .unset, .unset, .unset, .unset] [(.int (3 : Int32)), (.int (i1 &&& (2147483647 : Int32)))])
    refine own_go (fun t k => iremM X0 hx rfl (hb hby at_12) rfl (by decide) k) ?_
    show own_G p e below _ T0 (mkF m 13 #[.val (.int i0), .val (.int i1), .val (.int (0 : Int32)), .unset, .unset, .unset, .unset] [(.int ((i1 &&& (2147483647 : Int32)) % (3 : Int32)))])
    rcases hf with hk2 | hk2 | hk2
    · rw [hk2]
      show own_G p e below _ T0 (mkF m 13 #[.val (.int i0), .val (.int i1), .val (.int (0 : Int32)), .unset, .unset, .unset, .unset] [(.int (0 : Int32))])
      refine own_go (fun t k => XS.istoreN X0.here hx rfl (hb hby at_13) rfl (l' := #[.val (.int i0), .val (.int i1), .val (.int (0 : Int32)), .val (.int (0 : Int32)), .unset, .unset, .unset]) rfl k) ?_
      show own_G p e below _ T0 (mkF m 14 #[.val (.int i0), .val (.int i1), .val (.int (0 : Int32)), .val (.int (0 : Int32)), .unset, .unset, .unset] [])
      refine own_go (fun t k => XS.iloadN X0.here hx rfl (hb hby at_14) rfl k) ?_
      show own_G p e below _ T0 (mkF m 15 #[.val (.int i0), .val (.int i1), .val (.int (0 : Int32)), .val (.int (0 : Int32)), .unset, .unset, .unset] [(.int (0 : Int32))])
      obtain ⟨T3, L3, v3, X3, ⟨rfl, rfl, q3⟩, st3⟩ := own_callS X0 hx hZ (y := (⟨"com/example/sownd/sownd/model/TruthValueOrPinLaw", "pick", "(I)Lcom/example/sownd/sownd/model/TruthValue;"⟩ : MethodName)) hown (hw _ (List.mem_of_getElem? (i := 1) rfl)) (hw _ (List.mem_of_getElem? (i := 2) rfl)) (hw _ (List.mem_of_getElem? (i := 3) rfl)) (hw _ (List.mem_of_getElem? (i := 4) rfl)) (by decide) (c_pick l Z a0 hw a_FALSE a_TRUE a_UNDEFINED (0 : Int32) h0 B ) e0 (argsL := [(.int (0 : Int32))]) (rest := []) (g := (mkF m 15 #[.val (.int i0), .val (.int i1), .val (.int (0 : Int32)), .val (.int (0 : Int32)), .unset, .unset, .unset] [(.int (0 : Int32))])) rfl (by rw [hml]; rfl) (ps := [.int]) (r := (some (.object "com/example/sownd/sownd/model/TruthValue"))) (by decide +kernel) rfl rfl (W := 0) (by show 2 * 0 + _ ≤ _; exact Nat.le_of_eq rfl) (hb hby at_15) (by decide) (by decide) (by decide) (by decide)
      have N3 := Fr.app N0 (Fr.nil n0)
      refine own_go st3 ?_
      show own_G p e below _ T3 (mkF m 18 #[.val (.int i0), .val (.int i1), .val (.int (0 : Int32)), .val (.int (0 : Int32)), .unset, .unset, .unset] [(.ref (own_pick a_FALSE a_TRUE a_UNDEFINED (0 : Int32)))])
      have r3 : (own_pick a_FALSE a_TRUE a_UNDEFINED (0 : Int32)) = a_FALSE := by unfold own_pick; rw [if_pos (show ((0 : Int32) = (0 : Int32)) by decide)]
      rw [r3]
      show own_G p e below _ T3 (mkF m 18 #[.val (.int i0), .val (.int i1), .val (.int (0 : Int32)), .val (.int (0 : Int32)), .unset, .unset, .unset] [(.ref a_FALSE)])
      refine own_go (fun t k => XS.astore X3.here hx rfl (hb hby at_18) rfl rfl (l' := #[.val (.int i0), .val (.int i1), .val (.int (0 : Int32)), .val (.int (0 : Int32)), .val (.ref a_FALSE), .unset, .unset]) rfl k) ?_
      show own_G p e below _ T3 (mkF m 20 #[.val (.int i0), .val (.int i1), .val (.int (0 : Int32)), .val (.int (0 : Int32)), .val (.ref a_FALSE), .unset, .unset] [])
      refine own_go (fun t k => XS.iloadN X3.here hx rfl (hb hby at_20) rfl k) ?_
      show own_G p e below _ T3 (mkF m 21 #[.val (.int i0), .val (.int i1), .val (.int (0 : Int32)), .val (.int (0 : Int32)), .val (.ref a_FALSE), .unset, .unset] [(.int (0 : Int32))])
      obtain ⟨T4, L4, v4, X4, ⟨rfl, rfl, q4⟩, st4⟩ := own_callS X3 hx hZ (y := (⟨"com/example/sownd/sownd/model/TruthValueOrPinLaw", "pick", "(I)Lcom/example/sownd/sownd/model/TruthValue;"⟩ : MethodName)) hown (hw _ (List.mem_of_getElem? (i := 1) rfl)) (hw _ (List.mem_of_getElem? (i := 2) rfl)) (hw _ (List.mem_of_getElem? (i := 3) rfl)) (hw _ (List.mem_of_getElem? (i := 4) rfl)) (by decide) (c_pick l Z a0 hw a_FALSE a_TRUE a_UNDEFINED (0 : Int32) h0 B ) q3 (argsL := [(.int (0 : Int32))]) (rest := []) (g := (mkF m 21 #[.val (.int i0), .val (.int i1), .val (.int (0 : Int32)), .val (.int (0 : Int32)), .val (.ref a_FALSE), .unset, .unset] [(.int (0 : Int32))])) rfl (by rw [hml]; rfl) (ps := [.int]) (r := (some (.object "com/example/sownd/sownd/model/TruthValue"))) (by decide +kernel) rfl rfl (W := 0) (by show 2 * 0 + _ ≤ _; exact Nat.le_of_eq rfl) (hb hby at_21) (by decide) (by decide) (by decide) (by decide)
      have N4 := Fr.app N3 (Fr.nil n0)
      refine own_go st4 ?_
      show own_G p e below _ T4 (mkF m 24 #[.val (.int i0), .val (.int i1), .val (.int (0 : Int32)), .val (.int (0 : Int32)), .val (.ref a_FALSE), .unset, .unset] [(.ref (own_pick a_FALSE a_TRUE a_UNDEFINED (0 : Int32)))])
      have r4 : (own_pick a_FALSE a_TRUE a_UNDEFINED (0 : Int32)) = a_FALSE := by unfold own_pick; rw [if_pos (show ((0 : Int32) = (0 : Int32)) by decide)]
      rw [r4]
      show own_G p e below _ T4 (mkF m 24 #[.val (.int i0), .val (.int i1), .val (.int (0 : Int32)), .val (.int (0 : Int32)), .val (.ref a_FALSE), .unset, .unset] [(.ref a_FALSE)])
      refine own_go (fun t k => XS.astore X4.here hx rfl (hb hby at_24) rfl rfl (l' := #[.val (.int i0), .val (.int i1), .val (.int (0 : Int32)), .val (.int (0 : Int32)), .val (.ref a_FALSE), .val (.ref a_FALSE), .unset]) rfl k) ?_
      show own_G p e below _ T4 (mkF m 26 #[.val (.int i0), .val (.int i1), .val (.int (0 : Int32)), .val (.int (0 : Int32)), .val (.ref a_FALSE), .val (.ref a_FALSE), .unset] [])
      refine own_go (fun t k => XS.aload X4.here hx rfl (hb hby at_26) rfl rfl k) ?_
      show own_G p e below _ T4 (mkF m 28 #[.val (.int i0), .val (.int i1), .val (.int (0 : Int32)), .val (.int (0 : Int32)), .val (.ref a_FALSE), .val (.ref a_FALSE), .unset] [(.ref a_FALSE)])
      refine own_go (fun t k => XS.aload X4.here hx rfl (hb hby at_28) rfl rfl k) ?_
      show own_G p e below _ T4 (mkF m 30 #[.val (.int i0), .val (.int i1), .val (.int (0 : Int32)), .val (.int (0 : Int32)), .val (.ref a_FALSE), .val (.ref a_FALSE), .unset] [(.ref a_FALSE), (.ref a_FALSE)])
      obtain ⟨T5, L5, v5, X5, ⟨rfl, rfl, q5⟩, st5⟩ := own_callV X4 hx hZ (y := (⟨"com/example/sownd/sownd/model/TruthValue", "or", "(Lcom/example/sownd/sownd/model/TruthValue;)Lcom/example/sownd/sownd/model/TruthValue;"⟩ : MethodName)) (z := (⟨"com/example/sownd/sownd/model/TruthValue", "or", "(Lcom/example/sownd/sownd/model/TruthValue;)Lcom/example/sownd/sownd/model/TruthValue;"⟩ : MethodName)) hown (hw _ (List.mem_of_getElem? (i := 8) rfl)) (hw _ (List.mem_of_getElem? (i := 9) rfl)) (hw _ (List.mem_of_getElem? (i := 11) rfl)) (hw _ (List.mem_of_getElem? (i := 11) rfl)) (hw _ (List.mem_of_getElem? (i := 10) rfl)) (hw _ (List.mem_of_getElem? (i := 12) rfl)) (hw _ (List.mem_of_getElem? (i := 6) rfl)) (notFace_of_selects (args := #[]) (mvT hZ (hw _ (List.mem_of_getElem? (i := 11) rfl)))) (by decide) (c_op l Z a0 hw a_FALSE a_TRUE a_UNDEFINED a_FALSE a_FALSE h0 B ) q4 E_FALSE (argsL := [(.ref a_FALSE)]) (rest := []) (g := (mkF m 30 #[.val (.int i0), .val (.int i1), .val (.int (0 : Int32)), .val (.int (0 : Int32)), .val (.ref a_FALSE), .val (.ref a_FALSE), .unset] [(.ref a_FALSE), (.ref a_FALSE)])) rfl (by rw [hml]; rfl) (ps := [(.object "com/example/sownd/sownd/model/TruthValue")]) (r := (some (.object "com/example/sownd/sownd/model/TruthValue"))) (by decide +kernel) rfl rfl (W := 0) (by show 2 * 0 + _ ≤ _; exact Nat.le_of_eq rfl) (hb hby at_30) (by decide) (by decide) (by decide) (by decide)
      have N5 := Fr.app N4 (Fr.nil n0)
      refine own_go st5 ?_
      show own_G p e below _ T5 (mkF m 33 #[.val (.int i0), .val (.int i1), .val (.int (0 : Int32)), .val (.int (0 : Int32)), .val (.ref a_FALSE), .val (.ref a_FALSE), .unset] [(.ref (own_op a_FALSE a_TRUE a_UNDEFINED a_FALSE a_FALSE))])
      have r5 : (own_op a_FALSE a_TRUE a_UNDEFINED a_FALSE a_FALSE) = a_FALSE := by unfold own_op; rw [if_neg (Fld.ne F_FALSE_ordinal F_TRUE_ordinal (own_neV (by decide))), if_neg (Fld.ne F_FALSE_ordinal F_TRUE_ordinal (own_neV (by decide))), if_neg (Fld.ne F_FALSE_ordinal F_UNDEFINED_ordinal (own_neV (by decide))), if_neg (Fld.ne F_FALSE_ordinal F_UNDEFINED_ordinal (own_neV (by decide)))]
      rw [r5]
      show own_G p e below _ T5 (mkF m 33 #[.val (.int i0), .val (.int i1), .val (.int (0 : Int32)), .val (.int (0 : Int32)), .val (.ref a_FALSE), .val (.ref a_FALSE), .unset] [(.ref a_FALSE)])
      refine own_go (fun t k => XS.astore X5.here hx rfl (hb hby at_33) rfl rfl (l' := #[.val (.int i0), .val (.int i1), .val (.int (0 : Int32)), .val (.int (0 : Int32)), .val (.ref a_FALSE), .val (.ref a_FALSE), .val (.ref a_FALSE)]) rfl k) ?_
      show own_G p e below _ T5 (mkF m 35 #[.val (.int i0), .val (.int i1), .val (.int (0 : Int32)), .val (.int (0 : Int32)), .val (.ref a_FALSE), .val (.ref a_FALSE), .val (.ref a_FALSE)] [])
      refine own_go (fun t k => XS.aload X5.here hx rfl (hb hby at_35) rfl rfl k) ?_
      show own_G p e below _ T5 (mkF m 37 #[.val (.int i0), .val (.int i1), .val (.int (0 : Int32)), .val (.int (0 : Int32)), .val (.ref a_FALSE), .val (.ref a_FALSE), .val (.ref a_FALSE)] [(.ref a_FALSE)])
      refine own_go (fun t k => XS.iloadN X5.here hx rfl (hb hby at_37) rfl k) ?_
      show own_G p e below _ T5 (mkF m 38 #[.val (.int i0), .val (.int i1), .val (.int (0 : Int32)), .val (.int (0 : Int32)), .val (.ref a_FALSE), .val (.ref a_FALSE), .val (.ref a_FALSE)] [(.int (0 : Int32)), (.ref a_FALSE)])
      refine own_go (fun t k => XS.iloadN X5.here hx rfl (hb hby at_38) rfl k) ?_
      show own_G p e below _ T5 (mkF m 39 #[.val (.int i0), .val (.int i1), .val (.int (0 : Int32)), .val (.int (0 : Int32)), .val (.ref a_FALSE), .val (.ref a_FALSE), .val (.ref a_FALSE)] [(.int (0 : Int32)), (.int (0 : Int32)), (.ref a_FALSE)])
      obtain ⟨T6, L6, v6, X6, ⟨rfl, rfl, q6⟩, st6⟩ := own_callS X5 hx hZ (y := (⟨"java/lang/Math", "max", "(II)I"⟩ : MethodName)) hown (hw _ (List.mem_of_getElem? (i := 18) rfl)) (hw _ (List.mem_of_getElem? (i := 19) rfl)) (hw _ (List.mem_of_getElem? (i := 20) rfl)) (hw _ (List.mem_of_getElem? (i := 21) rfl)) (by decide) (c_mm l Z a0 hw (0 : Int32) (0 : Int32) h0  ) q5 (argsL := [(.int (0 : Int32)), (.int (0 : Int32))]) (rest := [(.ref a_FALSE)]) (g := (mkF m 39 #[.val (.int i0), .val (.int i1), .val (.int (0 : Int32)), .val (.int (0 : Int32)), .val (.ref a_FALSE), .val (.ref a_FALSE), .val (.ref a_FALSE)] [(.int (0 : Int32)), (.int (0 : Int32)), (.ref a_FALSE)])) rfl (by rw [hml]; rfl) (ps := [.int, .int]) (r := (some .int)) (by decide +kernel) rfl rfl (W := 1) (by show 2 * 0 + _ ≤ _; exact Nat.le_of_eq rfl) (hb hby at_39) (by decide) (by decide) (by decide) (by decide)
      have N6 := Fr.app N5 (Fr.nil n0)
      refine own_go st6 ?_
      show own_G p e below _ T6 (mkF m 42 #[.val (.int i0), .val (.int i1), .val (.int (0 : Int32)), .val (.int (0 : Int32)), .val (.ref a_FALSE), .val (.ref a_FALSE), .val (.ref a_FALSE)] [(.int (own_mm (0 : Int32) (0 : Int32))), (.ref a_FALSE)])
      have r6 : (own_mm (0 : Int32) (0 : Int32)) = (0 : Int32) := by unfold own_mm; rw [if_neg (show ¬ ((0 : Int32) < (0 : Int32)) by decide)]
      rw [r6]
      show own_G p e below _ T6 (mkF m 42 #[.val (.int i0), .val (.int i1), .val (.int (0 : Int32)), .val (.int (0 : Int32)), .val (.ref a_FALSE), .val (.ref a_FALSE), .val (.ref a_FALSE)] [(.int (0 : Int32)), (.ref a_FALSE)])
      obtain ⟨T7, L7, v7, X7, ⟨rfl, rfl, q7⟩, st7⟩ := own_callS X6 hx hZ (y := (⟨"com/example/sownd/sownd/model/TruthValueOrPinLaw", "pick", "(I)Lcom/example/sownd/sownd/model/TruthValue;"⟩ : MethodName)) hown (hw _ (List.mem_of_getElem? (i := 1) rfl)) (hw _ (List.mem_of_getElem? (i := 2) rfl)) (hw _ (List.mem_of_getElem? (i := 3) rfl)) (hw _ (List.mem_of_getElem? (i := 4) rfl)) (by decide) (c_pick l Z a0 hw a_FALSE a_TRUE a_UNDEFINED (0 : Int32) h0 B ) q6 (argsL := [(.int (0 : Int32))]) (rest := [(.ref a_FALSE)]) (g := (mkF m 42 #[.val (.int i0), .val (.int i1), .val (.int (0 : Int32)), .val (.int (0 : Int32)), .val (.ref a_FALSE), .val (.ref a_FALSE), .val (.ref a_FALSE)] [(.int (0 : Int32)), (.ref a_FALSE)])) rfl (by rw [hml]; rfl) (ps := [.int]) (r := (some (.object "com/example/sownd/sownd/model/TruthValue"))) (by decide +kernel) rfl rfl (W := 1) (by show 2 * 0 + _ ≤ _; exact Nat.le_of_eq rfl) (hb hby at_42) (by decide) (by decide) (by decide) (by decide)
      have N7 := Fr.app N6 (Fr.nil n0)
      refine own_go st7 ?_
      show own_G p e below _ T7 (mkF m 45 #[.val (.int i0), .val (.int i1), .val (.int (0 : Int32)), .val (.int (0 : Int32)), .val (.ref a_FALSE), .val (.ref a_FALSE), .val (.ref a_FALSE)] [(.ref (own_pick a_FALSE a_TRUE a_UNDEFINED (0 : Int32))), (.ref a_FALSE)])
      have r7 : (own_pick a_FALSE a_TRUE a_UNDEFINED (0 : Int32)) = a_FALSE := by unfold own_pick; rw [if_pos (show ((0 : Int32) = (0 : Int32)) by decide)]
      rw [r7]
      show own_G p e below _ T7 (mkF m 45 #[.val (.int i0), .val (.int i1), .val (.int (0 : Int32)), .val (.int (0 : Int32)), .val (.ref a_FALSE), .val (.ref a_FALSE), .val (.ref a_FALSE)] [(.ref a_FALSE), (.ref a_FALSE)])
      refine own_go (fun t k => Jvm.Free.XT.acmpNo X7.here hx rfl (hb hby at_45) rfl rfl rfl (own_acnF rfl) k) ?_
      show own_G p e below _ T7 (mkF m 48 #[.val (.int i0), .val (.int i1), .val (.int (0 : Int32)), .val (.int (0 : Int32)), .val (.ref a_FALSE), .val (.ref a_FALSE), .val (.ref a_FALSE)] [])
      refine own_go (fun t k => XS.iconst X7.here hx rfl (hb hby at_48) k) ?_
      show own_G p e below _ T7 (mkF m 49 #[.val (.int i0), .val (.int i1), .val (.int (0 : Int32)), .val (.int (0 : Int32)), .val (.ref a_FALSE), .val (.ref a_FALSE), .val (.ref a_FALSE)] [(.int (1 : Int32))])
      refine own_go (fun t k => XS.goto X7.here hx rfl (pc0 := 49) (pc' := 53) rfl (hb hby at_49) (by decide) (by decide) k) ?_
      show own_G p e below _ T7 (mkF m 53 #[.val (.int i0), .val (.int i1), .val (.int (0 : Int32)), .val (.int (0 : Int32)), .val (.ref a_FALSE), .val (.ref a_FALSE), .val (.ref a_FALSE)] [(.int (1 : Int32))])
      exact own_retN X7 hx hlk hret (by simp) (hb hby at_53) (by decide) (by decide) ⟨rfl, N7⟩
    · rw [hk2]
      show own_G p e below _ T0 (mkF m 13 #[.val (.int i0), .val (.int i1), .val (.int (0 : Int32)), .unset, .unset, .unset, .unset] [(.int (1 : Int32))])
      refine own_go (fun t k => XS.istoreN X0.here hx rfl (hb hby at_13) rfl (l' := #[.val (.int i0), .val (.int i1), .val (.int (0 : Int32)), .val (.int (1 : Int32)), .unset, .unset, .unset]) rfl k) ?_
      show own_G p e below _ T0 (mkF m 14 #[.val (.int i0), .val (.int i1), .val (.int (0 : Int32)), .val (.int (1 : Int32)), .unset, .unset, .unset] [])
      refine own_go (fun t k => XS.iloadN X0.here hx rfl (hb hby at_14) rfl k) ?_
      show own_G p e below _ T0 (mkF m 15 #[.val (.int i0), .val (.int i1), .val (.int (0 : Int32)), .val (.int (1 : Int32)), .unset, .unset, .unset] [(.int (0 : Int32))])
      obtain ⟨T8, L8, v8, X8, ⟨rfl, rfl, q8⟩, st8⟩ := own_callS X0 hx hZ (y := (⟨"com/example/sownd/sownd/model/TruthValueOrPinLaw", "pick", "(I)Lcom/example/sownd/sownd/model/TruthValue;"⟩ : MethodName)) hown (hw _ (List.mem_of_getElem? (i := 1) rfl)) (hw _ (List.mem_of_getElem? (i := 2) rfl)) (hw _ (List.mem_of_getElem? (i := 3) rfl)) (hw _ (List.mem_of_getElem? (i := 4) rfl)) (by decide) (c_pick l Z a0 hw a_FALSE a_TRUE a_UNDEFINED (0 : Int32) h0 B ) e0 (argsL := [(.int (0 : Int32))]) (rest := []) (g := (mkF m 15 #[.val (.int i0), .val (.int i1), .val (.int (0 : Int32)), .val (.int (1 : Int32)), .unset, .unset, .unset] [(.int (0 : Int32))])) rfl (by rw [hml]; rfl) (ps := [.int]) (r := (some (.object "com/example/sownd/sownd/model/TruthValue"))) (by decide +kernel) rfl rfl (W := 0) (by show 2 * 0 + _ ≤ _; exact Nat.le_of_eq rfl) (hb hby at_15) (by decide) (by decide) (by decide) (by decide)
      have N8 := Fr.app N0 (Fr.nil n0)
      refine own_go st8 ?_
      show own_G p e below _ T8 (mkF m 18 #[.val (.int i0), .val (.int i1), .val (.int (0 : Int32)), .val (.int (1 : Int32)), .unset, .unset, .unset] [(.ref (own_pick a_FALSE a_TRUE a_UNDEFINED (0 : Int32)))])
      have r8 : (own_pick a_FALSE a_TRUE a_UNDEFINED (0 : Int32)) = a_FALSE := by unfold own_pick; rw [if_pos (show ((0 : Int32) = (0 : Int32)) by decide)]
      rw [r8]
      show own_G p e below _ T8 (mkF m 18 #[.val (.int i0), .val (.int i1), .val (.int (0 : Int32)), .val (.int (1 : Int32)), .unset, .unset, .unset] [(.ref a_FALSE)])
      refine own_go (fun t k => XS.astore X8.here hx rfl (hb hby at_18) rfl rfl (l' := #[.val (.int i0), .val (.int i1), .val (.int (0 : Int32)), .val (.int (1 : Int32)), .val (.ref a_FALSE), .unset, .unset]) rfl k) ?_
      show own_G p e below _ T8 (mkF m 20 #[.val (.int i0), .val (.int i1), .val (.int (0 : Int32)), .val (.int (1 : Int32)), .val (.ref a_FALSE), .unset, .unset] [])
      refine own_go (fun t k => XS.iloadN X8.here hx rfl (hb hby at_20) rfl k) ?_
      show own_G p e below _ T8 (mkF m 21 #[.val (.int i0), .val (.int i1), .val (.int (0 : Int32)), .val (.int (1 : Int32)), .val (.ref a_FALSE), .unset, .unset] [(.int (1 : Int32))])
      obtain ⟨T9, L9, v9, X9, ⟨rfl, rfl, q9⟩, st9⟩ := own_callS X8 hx hZ (y := (⟨"com/example/sownd/sownd/model/TruthValueOrPinLaw", "pick", "(I)Lcom/example/sownd/sownd/model/TruthValue;"⟩ : MethodName)) hown (hw _ (List.mem_of_getElem? (i := 1) rfl)) (hw _ (List.mem_of_getElem? (i := 2) rfl)) (hw _ (List.mem_of_getElem? (i := 3) rfl)) (hw _ (List.mem_of_getElem? (i := 4) rfl)) (by decide) (c_pick l Z a0 hw a_FALSE a_TRUE a_UNDEFINED (1 : Int32) h0 B ) q8 (argsL := [(.int (1 : Int32))]) (rest := []) (g := (mkF m 21 #[.val (.int i0), .val (.int i1), .val (.int (0 : Int32)), .val (.int (1 : Int32)), .val (.ref a_FALSE), .unset, .unset] [(.int (1 : Int32))])) rfl (by rw [hml]; rfl) (ps := [.int]) (r := (some (.object "com/example/sownd/sownd/model/TruthValue"))) (by decide +kernel) rfl rfl (W := 0) (by show 2 * 0 + _ ≤ _; exact Nat.le_of_eq rfl) (hb hby at_21) (by decide) (by decide) (by decide) (by decide)
      have N9 := Fr.app N8 (Fr.nil n0)
      refine own_go st9 ?_
      show own_G p e below _ T9 (mkF m 24 #[.val (.int i0), .val (.int i1), .val (.int (0 : Int32)), .val (.int (1 : Int32)), .val (.ref a_FALSE), .unset, .unset] [(.ref (own_pick a_FALSE a_TRUE a_UNDEFINED (1 : Int32)))])
      have r9 : (own_pick a_FALSE a_TRUE a_UNDEFINED (1 : Int32)) = a_UNDEFINED := by unfold own_pick; rw [if_neg (show ¬ ((1 : Int32) = (0 : Int32)) by decide), if_pos (show ((1 : Int32) = (1 : Int32)) by decide)]
      rw [r9]
      show own_G p e below _ T9 (mkF m 24 #[.val (.int i0), .val (.int i1), .val (.int (0 : Int32)), .val (.int (1 : Int32)), .val (.ref a_FALSE), .unset, .unset] [(.ref a_UNDEFINED)])
      refine own_go (fun t k => XS.astore X9.here hx rfl (hb hby at_24) rfl rfl (l' := #[.val (.int i0), .val (.int i1), .val (.int (0 : Int32)), .val (.int (1 : Int32)), .val (.ref a_FALSE), .val (.ref a_UNDEFINED), .unset]) rfl k) ?_
      show own_G p e below _ T9 (mkF m 26 #[.val (.int i0), .val (.int i1), .val (.int (0 : Int32)), .val (.int (1 : Int32)), .val (.ref a_FALSE), .val (.ref a_UNDEFINED), .unset] [])
      refine own_go (fun t k => XS.aload X9.here hx rfl (hb hby at_26) rfl rfl k) ?_
      show own_G p e below _ T9 (mkF m 28 #[.val (.int i0), .val (.int i1), .val (.int (0 : Int32)), .val (.int (1 : Int32)), .val (.ref a_FALSE), .val (.ref a_UNDEFINED), .unset] [(.ref a_FALSE)])
      refine own_go (fun t k => XS.aload X9.here hx rfl (hb hby at_28) rfl rfl k) ?_
      show own_G p e below _ T9 (mkF m 30 #[.val (.int i0), .val (.int i1), .val (.int (0 : Int32)), .val (.int (1 : Int32)), .val (.ref a_FALSE), .val (.ref a_UNDEFINED), .unset] [(.ref a_UNDEFINED), (.ref a_FALSE)])
      obtain ⟨T10, L10, v10, X10, ⟨rfl, rfl, q10⟩, st10⟩ := own_callV X9 hx hZ (y := (⟨"com/example/sownd/sownd/model/TruthValue", "or", "(Lcom/example/sownd/sownd/model/TruthValue;)Lcom/example/sownd/sownd/model/TruthValue;"⟩ : MethodName)) (z := (⟨"com/example/sownd/sownd/model/TruthValue", "or", "(Lcom/example/sownd/sownd/model/TruthValue;)Lcom/example/sownd/sownd/model/TruthValue;"⟩ : MethodName)) hown (hw _ (List.mem_of_getElem? (i := 8) rfl)) (hw _ (List.mem_of_getElem? (i := 9) rfl)) (hw _ (List.mem_of_getElem? (i := 11) rfl)) (hw _ (List.mem_of_getElem? (i := 11) rfl)) (hw _ (List.mem_of_getElem? (i := 10) rfl)) (hw _ (List.mem_of_getElem? (i := 12) rfl)) (hw _ (List.mem_of_getElem? (i := 6) rfl)) (notFace_of_selects (args := #[]) (mvT hZ (hw _ (List.mem_of_getElem? (i := 11) rfl)))) (by decide) (c_op l Z a0 hw a_FALSE a_TRUE a_UNDEFINED a_FALSE a_UNDEFINED h0 B ) q9 E_FALSE (argsL := [(.ref a_UNDEFINED)]) (rest := []) (g := (mkF m 30 #[.val (.int i0), .val (.int i1), .val (.int (0 : Int32)), .val (.int (1 : Int32)), .val (.ref a_FALSE), .val (.ref a_UNDEFINED), .unset] [(.ref a_UNDEFINED), (.ref a_FALSE)])) rfl (by rw [hml]; rfl) (ps := [(.object "com/example/sownd/sownd/model/TruthValue")]) (r := (some (.object "com/example/sownd/sownd/model/TruthValue"))) (by decide +kernel) rfl rfl (W := 0) (by show 2 * 0 + _ ≤ _; exact Nat.le_of_eq rfl) (hb hby at_30) (by decide) (by decide) (by decide) (by decide)
      have N10 := Fr.app N9 (Fr.nil n0)
      refine own_go st10 ?_
      show own_G p e below _ T10 (mkF m 33 #[.val (.int i0), .val (.int i1), .val (.int (0 : Int32)), .val (.int (1 : Int32)), .val (.ref a_FALSE), .val (.ref a_UNDEFINED), .unset] [(.ref (own_op a_FALSE a_TRUE a_UNDEFINED a_FALSE a_UNDEFINED))])
      have r10 : (own_op a_FALSE a_TRUE a_UNDEFINED a_FALSE a_UNDEFINED) = a_UNDEFINED := by unfold own_op; rw [if_neg (Fld.ne F_FALSE_ordinal F_TRUE_ordinal (own_neV (by decide))), if_neg (Fld.ne F_UNDEFINED_ordinal F_TRUE_ordinal (own_neV (by decide))), if_neg (Fld.ne F_FALSE_ordinal F_UNDEFINED_ordinal (own_neV (by decide))), if_pos (rfl : a_UNDEFINED = a_UNDEFINED)]
      rw [r10]
      show own_G p e below _ T10 (mkF m 33 #[.val (.int i0), .val (.int i1), .val (.int (0 : Int32)), .val (.int (1 : Int32)), .val (.ref a_FALSE), .val (.ref a_UNDEFINED), .unset] [(.ref a_UNDEFINED)])
      refine own_go (fun t k => XS.astore X10.here hx rfl (hb hby at_33) rfl rfl (l' := #[.val (.int i0), .val (.int i1), .val (.int (0 : Int32)), .val (.int (1 : Int32)), .val (.ref a_FALSE), .val (.ref a_UNDEFINED), .val (.ref a_UNDEFINED)]) rfl k) ?_
      show own_G p e below _ T10 (mkF m 35 #[.val (.int i0), .val (.int i1), .val (.int (0 : Int32)), .val (.int (1 : Int32)), .val (.ref a_FALSE), .val (.ref a_UNDEFINED), .val (.ref a_UNDEFINED)] [])
      refine own_go (fun t k => XS.aload X10.here hx rfl (hb hby at_35) rfl rfl k) ?_
      show own_G p e below _ T10 (mkF m 37 #[.val (.int i0), .val (.int i1), .val (.int (0 : Int32)), .val (.int (1 : Int32)), .val (.ref a_FALSE), .val (.ref a_UNDEFINED), .val (.ref a_UNDEFINED)] [(.ref a_UNDEFINED)])
      refine own_go (fun t k => XS.iloadN X10.here hx rfl (hb hby at_37) rfl k) ?_
      show own_G p e below _ T10 (mkF m 38 #[.val (.int i0), .val (.int i1), .val (.int (0 : Int32)), .val (.int (1 : Int32)), .val (.ref a_FALSE), .val (.ref a_UNDEFINED), .val (.ref a_UNDEFINED)] [(.int (0 : Int32)), (.ref a_UNDEFINED)])
      refine own_go (fun t k => XS.iloadN X10.here hx rfl (hb hby at_38) rfl k) ?_
      show own_G p e below _ T10 (mkF m 39 #[.val (.int i0), .val (.int i1), .val (.int (0 : Int32)), .val (.int (1 : Int32)), .val (.ref a_FALSE), .val (.ref a_UNDEFINED), .val (.ref a_UNDEFINED)] [(.int (1 : Int32)), (.int (0 : Int32)), (.ref a_UNDEFINED)])
      obtain ⟨T11, L11, v11, X11, ⟨rfl, rfl, q11⟩, st11⟩ := own_callS X10 hx hZ (y := (⟨"java/lang/Math", "max", "(II)I"⟩ : MethodName)) hown (hw _ (List.mem_of_getElem? (i := 18) rfl)) (hw _ (List.mem_of_getElem? (i := 19) rfl)) (hw _ (List.mem_of_getElem? (i := 20) rfl)) (hw _ (List.mem_of_getElem? (i := 21) rfl)) (by decide) (c_mm l Z a0 hw (0 : Int32) (1 : Int32) h0  ) q10 (argsL := [(.int (0 : Int32)), (.int (1 : Int32))]) (rest := [(.ref a_UNDEFINED)]) (g := (mkF m 39 #[.val (.int i0), .val (.int i1), .val (.int (0 : Int32)), .val (.int (1 : Int32)), .val (.ref a_FALSE), .val (.ref a_UNDEFINED), .val (.ref a_UNDEFINED)] [(.int (1 : Int32)), (.int (0 : Int32)), (.ref a_UNDEFINED)])) rfl (by rw [hml]; rfl) (ps := [.int, .int]) (r := (some .int)) (by decide +kernel) rfl rfl (W := 1) (by show 2 * 0 + _ ≤ _; exact Nat.le_of_eq rfl) (hb hby at_39) (by decide) (by decide) (by decide) (by decide)
      have N11 := Fr.app N10 (Fr.nil n0)
      refine own_go st11 ?_
      show own_G p e below _ T11 (mkF m 42 #[.val (.int i0), .val (.int i1), .val (.int (0 : Int32)), .val (.int (1 : Int32)), .val (.ref a_FALSE), .val (.ref a_UNDEFINED), .val (.ref a_UNDEFINED)] [(.int (own_mm (0 : Int32) (1 : Int32))), (.ref a_UNDEFINED)])
      have r11 : (own_mm (0 : Int32) (1 : Int32)) = (1 : Int32) := by unfold own_mm; rw [if_pos (show ((0 : Int32) < (1 : Int32)) by decide)]
      rw [r11]
      show own_G p e below _ T11 (mkF m 42 #[.val (.int i0), .val (.int i1), .val (.int (0 : Int32)), .val (.int (1 : Int32)), .val (.ref a_FALSE), .val (.ref a_UNDEFINED), .val (.ref a_UNDEFINED)] [(.int (1 : Int32)), (.ref a_UNDEFINED)])
      obtain ⟨T12, L12, v12, X12, ⟨rfl, rfl, q12⟩, st12⟩ := own_callS X11 hx hZ (y := (⟨"com/example/sownd/sownd/model/TruthValueOrPinLaw", "pick", "(I)Lcom/example/sownd/sownd/model/TruthValue;"⟩ : MethodName)) hown (hw _ (List.mem_of_getElem? (i := 1) rfl)) (hw _ (List.mem_of_getElem? (i := 2) rfl)) (hw _ (List.mem_of_getElem? (i := 3) rfl)) (hw _ (List.mem_of_getElem? (i := 4) rfl)) (by decide) (c_pick l Z a0 hw a_FALSE a_TRUE a_UNDEFINED (1 : Int32) h0 B ) q11 (argsL := [(.int (1 : Int32))]) (rest := [(.ref a_UNDEFINED)]) (g := (mkF m 42 #[.val (.int i0), .val (.int i1), .val (.int (0 : Int32)), .val (.int (1 : Int32)), .val (.ref a_FALSE), .val (.ref a_UNDEFINED), .val (.ref a_UNDEFINED)] [(.int (1 : Int32)), (.ref a_UNDEFINED)])) rfl (by rw [hml]; rfl) (ps := [.int]) (r := (some (.object "com/example/sownd/sownd/model/TruthValue"))) (by decide +kernel) rfl rfl (W := 1) (by show 2 * 0 + _ ≤ _; exact Nat.le_of_eq rfl) (hb hby at_42) (by decide) (by decide) (by decide) (by decide)
      have N12 := Fr.app N11 (Fr.nil n0)
      refine own_go st12 ?_
      show own_G p e below _ T12 (mkF m 45 #[.val (.int i0), .val (.int i1), .val (.int (0 : Int32)), .val (.int (1 : Int32)), .val (.ref a_FALSE), .val (.ref a_UNDEFINED), .val (.ref a_UNDEFINED)] [(.ref (own_pick a_FALSE a_TRUE a_UNDEFINED (1 : Int32))), (.ref a_UNDEFINED)])
      have r12 : (own_pick a_FALSE a_TRUE a_UNDEFINED (1 : Int32)) = a_UNDEFINED := by unfold own_pick; rw [if_neg (show ¬ ((1 : Int32) = (0 : Int32)) by decide), if_pos (show ((1 : Int32) = (1 : Int32)) by decide)]
      rw [r12]
      show own_G p e below _ T12 (mkF m 45 #[.val (.int i0), .val (.int i1), .val (.int (0 : Int32)), .val (.int (1 : Int32)), .val (.ref a_FALSE), .val (.ref a_UNDEFINED), .val (.ref a_UNDEFINED)] [(.ref a_UNDEFINED), (.ref a_UNDEFINED)])
      refine own_go (fun t k => Jvm.Free.XT.acmpNo X12.here hx rfl (hb hby at_45) rfl rfl rfl (own_acnF rfl) k) ?_
      show own_G p e below _ T12 (mkF m 48 #[.val (.int i0), .val (.int i1), .val (.int (0 : Int32)), .val (.int (1 : Int32)), .val (.ref a_FALSE), .val (.ref a_UNDEFINED), .val (.ref a_UNDEFINED)] [])
      refine own_go (fun t k => XS.iconst X12.here hx rfl (hb hby at_48) k) ?_
      show own_G p e below _ T12 (mkF m 49 #[.val (.int i0), .val (.int i1), .val (.int (0 : Int32)), .val (.int (1 : Int32)), .val (.ref a_FALSE), .val (.ref a_UNDEFINED), .val (.ref a_UNDEFINED)] [(.int (1 : Int32))])
      refine own_go (fun t k => XS.goto X12.here hx rfl (pc0 := 49) (pc' := 53) rfl (hb hby at_49) (by decide) (by decide) k) ?_
      show own_G p e below _ T12 (mkF m 53 #[.val (.int i0), .val (.int i1), .val (.int (0 : Int32)), .val (.int (1 : Int32)), .val (.ref a_FALSE), .val (.ref a_UNDEFINED), .val (.ref a_UNDEFINED)] [(.int (1 : Int32))])
      exact own_retN X12 hx hlk hret (by simp) (hb hby at_53) (by decide) (by decide) ⟨rfl, N12⟩
    · rw [hk2]
      show own_G p e below _ T0 (mkF m 13 #[.val (.int i0), .val (.int i1), .val (.int (0 : Int32)), .unset, .unset, .unset, .unset] [(.int (2 : Int32))])
      refine own_go (fun t k => XS.istoreN X0.here hx rfl (hb hby at_13) rfl (l' := #[.val (.int i0), .val (.int i1), .val (.int (0 : Int32)), .val (.int (2 : Int32)), .unset, .unset, .unset]) rfl k) ?_
      show own_G p e below _ T0 (mkF m 14 #[.val (.int i0), .val (.int i1), .val (.int (0 : Int32)), .val (.int (2 : Int32)), .unset, .unset, .unset] [])
      refine own_go (fun t k => XS.iloadN X0.here hx rfl (hb hby at_14) rfl k) ?_
      show own_G p e below _ T0 (mkF m 15 #[.val (.int i0), .val (.int i1), .val (.int (0 : Int32)), .val (.int (2 : Int32)), .unset, .unset, .unset] [(.int (0 : Int32))])
      obtain ⟨T13, L13, v13, X13, ⟨rfl, rfl, q13⟩, st13⟩ := own_callS X0 hx hZ (y := (⟨"com/example/sownd/sownd/model/TruthValueOrPinLaw", "pick", "(I)Lcom/example/sownd/sownd/model/TruthValue;"⟩ : MethodName)) hown (hw _ (List.mem_of_getElem? (i := 1) rfl)) (hw _ (List.mem_of_getElem? (i := 2) rfl)) (hw _ (List.mem_of_getElem? (i := 3) rfl)) (hw _ (List.mem_of_getElem? (i := 4) rfl)) (by decide) (c_pick l Z a0 hw a_FALSE a_TRUE a_UNDEFINED (0 : Int32) h0 B ) e0 (argsL := [(.int (0 : Int32))]) (rest := []) (g := (mkF m 15 #[.val (.int i0), .val (.int i1), .val (.int (0 : Int32)), .val (.int (2 : Int32)), .unset, .unset, .unset] [(.int (0 : Int32))])) rfl (by rw [hml]; rfl) (ps := [.int]) (r := (some (.object "com/example/sownd/sownd/model/TruthValue"))) (by decide +kernel) rfl rfl (W := 0) (by show 2 * 0 + _ ≤ _; exact Nat.le_of_eq rfl) (hb hby at_15) (by decide) (by decide) (by decide) (by decide)
      have N13 := Fr.app N0 (Fr.nil n0)
      refine own_go st13 ?_
      show own_G p e below _ T13 (mkF m 18 #[.val (.int i0), .val (.int i1), .val (.int (0 : Int32)), .val (.int (2 : Int32)), .unset, .unset, .unset] [(.ref (own_pick a_FALSE a_TRUE a_UNDEFINED (0 : Int32)))])
      have r13 : (own_pick a_FALSE a_TRUE a_UNDEFINED (0 : Int32)) = a_FALSE := by unfold own_pick; rw [if_pos (show ((0 : Int32) = (0 : Int32)) by decide)]
      rw [r13]
      show own_G p e below _ T13 (mkF m 18 #[.val (.int i0), .val (.int i1), .val (.int (0 : Int32)), .val (.int (2 : Int32)), .unset, .unset, .unset] [(.ref a_FALSE)])
      refine own_go (fun t k => XS.astore X13.here hx rfl (hb hby at_18) rfl rfl (l' := #[.val (.int i0), .val (.int i1), .val (.int (0 : Int32)), .val (.int (2 : Int32)), .val (.ref a_FALSE), .unset, .unset]) rfl k) ?_
      show own_G p e below _ T13 (mkF m 20 #[.val (.int i0), .val (.int i1), .val (.int (0 : Int32)), .val (.int (2 : Int32)), .val (.ref a_FALSE), .unset, .unset] [])
      refine own_go (fun t k => XS.iloadN X13.here hx rfl (hb hby at_20) rfl k) ?_
      show own_G p e below _ T13 (mkF m 21 #[.val (.int i0), .val (.int i1), .val (.int (0 : Int32)), .val (.int (2 : Int32)), .val (.ref a_FALSE), .unset, .unset] [(.int (2 : Int32))])
      obtain ⟨T14, L14, v14, X14, ⟨rfl, rfl, q14⟩, st14⟩ := own_callS X13 hx hZ (y := (⟨"com/example/sownd/sownd/model/TruthValueOrPinLaw", "pick", "(I)Lcom/example/sownd/sownd/model/TruthValue;"⟩ : MethodName)) hown (hw _ (List.mem_of_getElem? (i := 1) rfl)) (hw _ (List.mem_of_getElem? (i := 2) rfl)) (hw _ (List.mem_of_getElem? (i := 3) rfl)) (hw _ (List.mem_of_getElem? (i := 4) rfl)) (by decide) (c_pick l Z a0 hw a_FALSE a_TRUE a_UNDEFINED (2 : Int32) h0 B ) q13 (argsL := [(.int (2 : Int32))]) (rest := []) (g := (mkF m 21 #[.val (.int i0), .val (.int i1), .val (.int (0 : Int32)), .val (.int (2 : Int32)), .val (.ref a_FALSE), .unset, .unset] [(.int (2 : Int32))])) rfl (by rw [hml]; rfl) (ps := [.int]) (r := (some (.object "com/example/sownd/sownd/model/TruthValue"))) (by decide +kernel) rfl rfl (W := 0) (by show 2 * 0 + _ ≤ _; exact Nat.le_of_eq rfl) (hb hby at_21) (by decide) (by decide) (by decide) (by decide)
      have N14 := Fr.app N13 (Fr.nil n0)
      refine own_go st14 ?_
      show own_G p e below _ T14 (mkF m 24 #[.val (.int i0), .val (.int i1), .val (.int (0 : Int32)), .val (.int (2 : Int32)), .val (.ref a_FALSE), .unset, .unset] [(.ref (own_pick a_FALSE a_TRUE a_UNDEFINED (2 : Int32)))])
      have r14 : (own_pick a_FALSE a_TRUE a_UNDEFINED (2 : Int32)) = a_TRUE := by unfold own_pick; rw [if_neg (show ¬ ((2 : Int32) = (0 : Int32)) by decide), if_neg (show ¬ ((2 : Int32) = (1 : Int32)) by decide)]
      rw [r14]
      show own_G p e below _ T14 (mkF m 24 #[.val (.int i0), .val (.int i1), .val (.int (0 : Int32)), .val (.int (2 : Int32)), .val (.ref a_FALSE), .unset, .unset] [(.ref a_TRUE)])
      refine own_go (fun t k => XS.astore X14.here hx rfl (hb hby at_24) rfl rfl (l' := #[.val (.int i0), .val (.int i1), .val (.int (0 : Int32)), .val (.int (2 : Int32)), .val (.ref a_FALSE), .val (.ref a_TRUE), .unset]) rfl k) ?_
      show own_G p e below _ T14 (mkF m 26 #[.val (.int i0), .val (.int i1), .val (.int (0 : Int32)), .val (.int (2 : Int32)), .val (.ref a_FALSE), .val (.ref a_TRUE), .unset] [])
      refine own_go (fun t k => XS.aload X14.here hx rfl (hb hby at_26) rfl rfl k) ?_
      show own_G p e below _ T14 (mkF m 28 #[.val (.int i0), .val (.int i1), .val (.int (0 : Int32)), .val (.int (2 : Int32)), .val (.ref a_FALSE), .val (.ref a_TRUE), .unset] [(.ref a_FALSE)])
      refine own_go (fun t k => XS.aload X14.here hx rfl (hb hby at_28) rfl rfl k) ?_
      show own_G p e below _ T14 (mkF m 30 #[.val (.int i0), .val (.int i1), .val (.int (0 : Int32)), .val (.int (2 : Int32)), .val (.ref a_FALSE), .val (.ref a_TRUE), .unset] [(.ref a_TRUE), (.ref a_FALSE)])
      obtain ⟨T15, L15, v15, X15, ⟨rfl, rfl, q15⟩, st15⟩ := own_callV X14 hx hZ (y := (⟨"com/example/sownd/sownd/model/TruthValue", "or", "(Lcom/example/sownd/sownd/model/TruthValue;)Lcom/example/sownd/sownd/model/TruthValue;"⟩ : MethodName)) (z := (⟨"com/example/sownd/sownd/model/TruthValue", "or", "(Lcom/example/sownd/sownd/model/TruthValue;)Lcom/example/sownd/sownd/model/TruthValue;"⟩ : MethodName)) hown (hw _ (List.mem_of_getElem? (i := 8) rfl)) (hw _ (List.mem_of_getElem? (i := 9) rfl)) (hw _ (List.mem_of_getElem? (i := 11) rfl)) (hw _ (List.mem_of_getElem? (i := 11) rfl)) (hw _ (List.mem_of_getElem? (i := 10) rfl)) (hw _ (List.mem_of_getElem? (i := 12) rfl)) (hw _ (List.mem_of_getElem? (i := 6) rfl)) (notFace_of_selects (args := #[]) (mvT hZ (hw _ (List.mem_of_getElem? (i := 11) rfl)))) (by decide) (c_op l Z a0 hw a_FALSE a_TRUE a_UNDEFINED a_FALSE a_TRUE h0 B ) q14 E_FALSE (argsL := [(.ref a_TRUE)]) (rest := []) (g := (mkF m 30 #[.val (.int i0), .val (.int i1), .val (.int (0 : Int32)), .val (.int (2 : Int32)), .val (.ref a_FALSE), .val (.ref a_TRUE), .unset] [(.ref a_TRUE), (.ref a_FALSE)])) rfl (by rw [hml]; rfl) (ps := [(.object "com/example/sownd/sownd/model/TruthValue")]) (r := (some (.object "com/example/sownd/sownd/model/TruthValue"))) (by decide +kernel) rfl rfl (W := 0) (by show 2 * 0 + _ ≤ _; exact Nat.le_of_eq rfl) (hb hby at_30) (by decide) (by decide) (by decide) (by decide)
      have N15 := Fr.app N14 (Fr.nil n0)
      refine own_go st15 ?_
      show own_G p e below _ T15 (mkF m 33 #[.val (.int i0), .val (.int i1), .val (.int (0 : Int32)), .val (.int (2 : Int32)), .val (.ref a_FALSE), .val (.ref a_TRUE), .unset] [(.ref (own_op a_FALSE a_TRUE a_UNDEFINED a_FALSE a_TRUE))])
      have r15 : (own_op a_FALSE a_TRUE a_UNDEFINED a_FALSE a_TRUE) = a_TRUE := by unfold own_op; rw [if_neg (Fld.ne F_FALSE_ordinal F_TRUE_ordinal (own_neV (by decide))), if_pos (rfl : a_TRUE = a_TRUE)]
      rw [r15]
      show own_G p e below _ T15 (mkF m 33 #[.val (.int i0), .val (.int i1), .val (.int (0 : Int32)), .val (.int (2 : Int32)), .val (.ref a_FALSE), .val (.ref a_TRUE), .unset] [(.ref a_TRUE)])
      refine own_go (fun t k => XS.astore X15.here hx rfl (hb hby at_33) rfl rfl (l' := #[.val (.int i0), .val (.int i1), .val (.int (0 : Int32)), .val (.int (2 : Int32)), .val (.ref a_FALSE), .val (.ref a_TRUE), .val (.ref a_TRUE)]) rfl k) ?_
      show own_G p e below _ T15 (mkF m 35 #[.val (.int i0), .val (.int i1), .val (.int (0 : Int32)), .val (.int (2 : Int32)), .val (.ref a_FALSE), .val (.ref a_TRUE), .val (.ref a_TRUE)] [])
      refine own_go (fun t k => XS.aload X15.here hx rfl (hb hby at_35) rfl rfl k) ?_
      show own_G p e below _ T15 (mkF m 37 #[.val (.int i0), .val (.int i1), .val (.int (0 : Int32)), .val (.int (2 : Int32)), .val (.ref a_FALSE), .val (.ref a_TRUE), .val (.ref a_TRUE)] [(.ref a_TRUE)])
      refine own_go (fun t k => XS.iloadN X15.here hx rfl (hb hby at_37) rfl k) ?_
      show own_G p e below _ T15 (mkF m 38 #[.val (.int i0), .val (.int i1), .val (.int (0 : Int32)), .val (.int (2 : Int32)), .val (.ref a_FALSE), .val (.ref a_TRUE), .val (.ref a_TRUE)] [(.int (0 : Int32)), (.ref a_TRUE)])
      refine own_go (fun t k => XS.iloadN X15.here hx rfl (hb hby at_38) rfl k) ?_
      show own_G p e below _ T15 (mkF m 39 #[.val (.int i0), .val (.int i1), .val (.int (0 : Int32)), .val (.int (2 : Int32)), .val (.ref a_FALSE), .val (.ref a_TRUE), .val (.ref a_TRUE)] [(.int (2 : Int32)), (.int (0 : Int32)), (.ref a_TRUE)])
      obtain ⟨T16, L16, v16, X16, ⟨rfl, rfl, q16⟩, st16⟩ := own_callS X15 hx hZ (y := (⟨"java/lang/Math", "max", "(II)I"⟩ : MethodName)) hown (hw _ (List.mem_of_getElem? (i := 18) rfl)) (hw _ (List.mem_of_getElem? (i := 19) rfl)) (hw _ (List.mem_of_getElem? (i := 20) rfl)) (hw _ (List.mem_of_getElem? (i := 21) rfl)) (by decide) (c_mm l Z a0 hw (0 : Int32) (2 : Int32) h0  ) q15 (argsL := [(.int (0 : Int32)), (.int (2 : Int32))]) (rest := [(.ref a_TRUE)]) (g := (mkF m 39 #[.val (.int i0), .val (.int i1), .val (.int (0 : Int32)), .val (.int (2 : Int32)), .val (.ref a_FALSE), .val (.ref a_TRUE), .val (.ref a_TRUE)] [(.int (2 : Int32)), (.int (0 : Int32)), (.ref a_TRUE)])) rfl (by rw [hml]; rfl) (ps := [.int, .int]) (r := (some .int)) (by decide +kernel) rfl rfl (W := 1) (by show 2 * 0 + _ ≤ _; exact Nat.le_of_eq rfl) (hb hby at_39) (by decide) (by decide) (by decide) (by decide)
      have N16 := Fr.app N15 (Fr.nil n0)
      refine own_go st16 ?_
      show own_G p e below _ T16 (mkF m 42 #[.val (.int i0), .val (.int i1), .val (.int (0 : Int32)), .val (.int (2 : Int32)), .val (.ref a_FALSE), .val (.ref a_TRUE), .val (.ref a_TRUE)] [(.int (own_mm (0 : Int32) (2 : Int32))), (.ref a_TRUE)])
      have r16 : (own_mm (0 : Int32) (2 : Int32)) = (2 : Int32) := by unfold own_mm; rw [if_pos (show ((0 : Int32) < (2 : Int32)) by decide)]
      rw [r16]
      show own_G p e below _ T16 (mkF m 42 #[.val (.int i0), .val (.int i1), .val (.int (0 : Int32)), .val (.int (2 : Int32)), .val (.ref a_FALSE), .val (.ref a_TRUE), .val (.ref a_TRUE)] [(.int (2 : Int32)), (.ref a_TRUE)])
      obtain ⟨T17, L17, v17, X17, ⟨rfl, rfl, q17⟩, st17⟩ := own_callS X16 hx hZ (y := (⟨"com/example/sownd/sownd/model/TruthValueOrPinLaw", "pick", "(I)Lcom/example/sownd/sownd/model/TruthValue;"⟩ : MethodName)) hown (hw _ (List.mem_of_getElem? (i := 1) rfl)) (hw _ (List.mem_of_getElem? (i := 2) rfl)) (hw _ (List.mem_of_getElem? (i := 3) rfl)) (hw _ (List.mem_of_getElem? (i := 4) rfl)) (by decide) (c_pick l Z a0 hw a_FALSE a_TRUE a_UNDEFINED (2 : Int32) h0 B ) q16 (argsL := [(.int (2 : Int32))]) (rest := [(.ref a_TRUE)]) (g := (mkF m 42 #[.val (.int i0), .val (.int i1), .val (.int (0 : Int32)), .val (.int (2 : Int32)), .val (.ref a_FALSE), .val (.ref a_TRUE), .val (.ref a_TRUE)] [(.int (2 : Int32)), (.ref a_TRUE)])) rfl (by rw [hml]; rfl) (ps := [.int]) (r := (some (.object "com/example/sownd/sownd/model/TruthValue"))) (by decide +kernel) rfl rfl (W := 1) (by show 2 * 0 + _ ≤ _; exact Nat.le_of_eq rfl) (hb hby at_42) (by decide) (by decide) (by decide) (by decide)
      have N17 := Fr.app N16 (Fr.nil n0)
      refine own_go st17 ?_
      show own_G p e below _ T17 (mkF m 45 #[.val (.int i0), .val (.int i1), .val (.int (0 : Int32)), .val (.int (2 : Int32)), .val (.ref a_FALSE), .val (.ref a_TRUE), .val (.ref a_TRUE)] [(.ref (own_pick a_FALSE a_TRUE a_UNDEFINED (2 : Int32))), (.ref a_TRUE)])
      have r17 : (own_pick a_FALSE a_TRUE a_UNDEFINED (2 : Int32)) = a_TRUE := by unfold own_pick; rw [if_neg (show ¬ ((2 : Int32) = (0 : Int32)) by decide), if_neg (show ¬ ((2 : Int32) = (1 : Int32)) by decide)]
      rw [r17]
      show own_G p e below _ T17 (mkF m 45 #[.val (.int i0), .val (.int i1), .val (.int (0 : Int32)), .val (.int (2 : Int32)), .val (.ref a_FALSE), .val (.ref a_TRUE), .val (.ref a_TRUE)] [(.ref a_TRUE), (.ref a_TRUE)])
      refine own_go (fun t k => Jvm.Free.XT.acmpNo X17.here hx rfl (hb hby at_45) rfl rfl rfl (own_acnF rfl) k) ?_
      show own_G p e below _ T17 (mkF m 48 #[.val (.int i0), .val (.int i1), .val (.int (0 : Int32)), .val (.int (2 : Int32)), .val (.ref a_FALSE), .val (.ref a_TRUE), .val (.ref a_TRUE)] [])
      refine own_go (fun t k => XS.iconst X17.here hx rfl (hb hby at_48) k) ?_
      show own_G p e below _ T17 (mkF m 49 #[.val (.int i0), .val (.int i1), .val (.int (0 : Int32)), .val (.int (2 : Int32)), .val (.ref a_FALSE), .val (.ref a_TRUE), .val (.ref a_TRUE)] [(.int (1 : Int32))])
      refine own_go (fun t k => XS.goto X17.here hx rfl (pc0 := 49) (pc' := 53) rfl (hb hby at_49) (by decide) (by decide) k) ?_
      show own_G p e below _ T17 (mkF m 53 #[.val (.int i0), .val (.int i1), .val (.int (0 : Int32)), .val (.int (2 : Int32)), .val (.ref a_FALSE), .val (.ref a_TRUE), .val (.ref a_TRUE)] [(.int (1 : Int32))])
      exact own_retN X17 hx hlk hret (by simp) (hb hby at_53) (by decide) (by decide) ⟨rfl, N17⟩
  · rw [hk1]
    show own_G p e below _ T0 (mkF m 6 #[.val (.int i0), .val (.int i1), .unset, .unset, .unset, .unset, .unset] [(.int (1 : Int32))])
    refine own_go (fun t k => XS.istoreN X0.here hx rfl (hb hby at_6) rfl (l' := #[.val (.int i0), .val (.int i1), .val (.int (1 : Int32)), .unset, .unset, .unset, .unset]) rfl k) ?_
    show own_G p e below _ T0 (mkF m 7 #[.val (.int i0), .val (.int i1), .val (.int (1 : Int32)), .unset, .unset, .unset, .unset] [])
    refine own_go (fun t k => XS.iloadN X0.here hx rfl (hb hby at_7) rfl k) ?_
    show own_G p e below _ T0 (mkF m 8 #[.val (.int i0), .val (.int i1), .val (.int (1 : Int32)), .unset, .unset, .unset, .unset] [(.int i1)])
    refine own_go (X0.ldcInt hx hown (mvT hZ (hw _ (List.mem_of_getElem? (i := 0) rfl))) (g := (mkF m 8 #[.val (.int i0), .val (.int i1), .val (.int (1 : Int32)), .unset, .unset, .unset, .unset] [(.int i1)])) rfl (hb hby at_8)) ?_
    show own_G p e below _ T0 (mkF m 10 #[.val (.int i0), .val (.int i1), .val (.int (1 : Int32)), .unset, .unset, .unset, .unset] [(.int (2147483647 : Int32)), (.int i1)])
    refine own_go (fun t k => XS.iand X0.here hx rfl (hb hby at_10) rfl k) ?_
    show own_G p e below _ T0 (mkF m 11 #[.val (.int i0), .val (.int i1), .val (.int (1 : Int32)), .unset, .unset, .unset, .unset] [(.int (i1 &&& (2147483647 : Int32)))])
    refine own_go (fun t k => XS.iconst X0.here hx rfl (hb hby at_11) k) ?_
    show own_G p e below _ T0 (mkF m 12 #[.val (.int i0), .val (.int i1), .val (.int (1 : Int32)), .unset, .unset, .unset, .unset] [(.int (3 : Int32)), (.int (i1 &&& (2147483647 : Int32)))])
    refine own_go (fun t k => iremM X0 hx rfl (hb hby at_12) rfl (by decide) k) ?_
    show own_G p e below _ T0 (mkF m 13 #[.val (.int i0), .val (.int i1), .val (.int (1 : Int32)), .unset, .unset, .unset, .unset] [(.int ((i1 &&& (2147483647 : Int32)) % (3 : Int32)))])
    rcases hf with hk18 | hk18 | hk18
    · rw [hk18]
      show own_G p e below _ T0 (mkF m 13 #[.val (.int i0), .val (.int i1), .val (.int (1 : Int32)), .unset, .unset, .unset, .unset] [(.int (0 : Int32))])
      refine own_go (fun t k => XS.istoreN X0.here hx rfl (hb hby at_13) rfl (l' := #[.val (.int i0), .val (.int i1), .val (.int (1 : Int32)), .val (.int (0 : Int32)), .unset, .unset, .unset]) rfl k) ?_
      show own_G p e below _ T0 (mkF m 14 #[.val (.int i0), .val (.int i1), .val (.int (1 : Int32)), .val (.int (0 : Int32)), .unset, .unset, .unset] [])
      refine own_go (fun t k => XS.iloadN X0.here hx rfl (hb hby at_14) rfl k) ?_
      show own_G p e below _ T0 (mkF m 15 #[.val (.int i0), .val (.int i1), .val (.int (1 : Int32)), .val (.int (0 : Int32)), .unset, .unset, .unset] [(.int (1 : Int32))])
      obtain ⟨T19, L19, v19, X19, ⟨rfl, rfl, q19⟩, st19⟩ := own_callS X0 hx hZ (y := (⟨"com/example/sownd/sownd/model/TruthValueOrPinLaw", "pick", "(I)Lcom/example/sownd/sownd/model/TruthValue;"⟩ : MethodName)) hown (hw _ (List.mem_of_getElem? (i := 1) rfl)) (hw _ (List.mem_of_getElem? (i := 2) rfl)) (hw _ (List.mem_of_getElem? (i := 3) rfl)) (hw _ (List.mem_of_getElem? (i := 4) rfl)) (by decide) (c_pick l Z a0 hw a_FALSE a_TRUE a_UNDEFINED (1 : Int32) h0 B ) e0 (argsL := [(.int (1 : Int32))]) (rest := []) (g := (mkF m 15 #[.val (.int i0), .val (.int i1), .val (.int (1 : Int32)), .val (.int (0 : Int32)), .unset, .unset, .unset] [(.int (1 : Int32))])) rfl (by rw [hml]; rfl) (ps := [.int]) (r := (some (.object "com/example/sownd/sownd/model/TruthValue"))) (by decide +kernel) rfl rfl (W := 0) (by show 2 * 0 + _ ≤ _; exact Nat.le_of_eq rfl) (hb hby at_15) (by decide) (by decide) (by decide) (by decide)
      have N19 := Fr.app N0 (Fr.nil n0)
      refine own_go st19 ?_
      show own_G p e below _ T19 (mkF m 18 #[.val (.int i0), .val (.int i1), .val (.int (1 : Int32)), .val (.int (0 : Int32)), .unset, .unset, .unset] [(.ref (own_pick a_FALSE a_TRUE a_UNDEFINED (1 : Int32)))])
      have r19 : (own_pick a_FALSE a_TRUE a_UNDEFINED (1 : Int32)) = a_UNDEFINED := by unfold own_pick; rw [if_neg (show ¬ ((1 : Int32) = (0 : Int32)) by decide), if_pos (show ((1 : Int32) = (1 : Int32)) by decide)]
      rw [r19]
      show own_G p e below _ T19 (mkF m 18 #[.val (.int i0), .val (.int i1), .val (.int (1 : Int32)), .val (.int (0 : Int32)), .unset, .unset, .unset] [(.ref a_UNDEFINED)])
      refine own_go (fun t k => XS.astore X19.here hx rfl (hb hby at_18) rfl rfl (l' := #[.val (.int i0), .val (.int i1), .val (.int (1 : Int32)), .val (.int (0 : Int32)), .val (.ref a_UNDEFINED), .unset, .unset]) rfl k) ?_
      show own_G p e below _ T19 (mkF m 20 #[.val (.int i0), .val (.int i1), .val (.int (1 : Int32)), .val (.int (0 : Int32)), .val (.ref a_UNDEFINED), .unset, .unset] [])
      refine own_go (fun t k => XS.iloadN X19.here hx rfl (hb hby at_20) rfl k) ?_
      show own_G p e below _ T19 (mkF m 21 #[.val (.int i0), .val (.int i1), .val (.int (1 : Int32)), .val (.int (0 : Int32)), .val (.ref a_UNDEFINED), .unset, .unset] [(.int (0 : Int32))])
      obtain ⟨T20, L20, v20, X20, ⟨rfl, rfl, q20⟩, st20⟩ := own_callS X19 hx hZ (y := (⟨"com/example/sownd/sownd/model/TruthValueOrPinLaw", "pick", "(I)Lcom/example/sownd/sownd/model/TruthValue;"⟩ : MethodName)) hown (hw _ (List.mem_of_getElem? (i := 1) rfl)) (hw _ (List.mem_of_getElem? (i := 2) rfl)) (hw _ (List.mem_of_getElem? (i := 3) rfl)) (hw _ (List.mem_of_getElem? (i := 4) rfl)) (by decide) (c_pick l Z a0 hw a_FALSE a_TRUE a_UNDEFINED (0 : Int32) h0 B ) q19 (argsL := [(.int (0 : Int32))]) (rest := []) (g := (mkF m 21 #[.val (.int i0), .val (.int i1), .val (.int (1 : Int32)), .val (.int (0 : Int32)), .val (.ref a_UNDEFINED), .unset, .unset] [(.int (0 : Int32))])) rfl (by rw [hml]; rfl) (ps := [.int]) (r := (some (.object "com/example/sownd/sownd/model/TruthValue"))) (by decide +kernel) rfl rfl (W := 0) (by show 2 * 0 + _ ≤ _; exact Nat.le_of_eq rfl) (hb hby at_21) (by decide) (by decide) (by decide) (by decide)
      have N20 := Fr.app N19 (Fr.nil n0)
      refine own_go st20 ?_
      show own_G p e below _ T20 (mkF m 24 #[.val (.int i0), .val (.int i1), .val (.int (1 : Int32)), .val (.int (0 : Int32)), .val (.ref a_UNDEFINED), .unset, .unset] [(.ref (own_pick a_FALSE a_TRUE a_UNDEFINED (0 : Int32)))])
      have r20 : (own_pick a_FALSE a_TRUE a_UNDEFINED (0 : Int32)) = a_FALSE := by unfold own_pick; rw [if_pos (show ((0 : Int32) = (0 : Int32)) by decide)]
      rw [r20]
      show own_G p e below _ T20 (mkF m 24 #[.val (.int i0), .val (.int i1), .val (.int (1 : Int32)), .val (.int (0 : Int32)), .val (.ref a_UNDEFINED), .unset, .unset] [(.ref a_FALSE)])
      refine own_go (fun t k => XS.astore X20.here hx rfl (hb hby at_24) rfl rfl (l' := #[.val (.int i0), .val (.int i1), .val (.int (1 : Int32)), .val (.int (0 : Int32)), .val (.ref a_UNDEFINED), .val (.ref a_FALSE), .unset]) rfl k) ?_
      show own_G p e below _ T20 (mkF m 26 #[.val (.int i0), .val (.int i1), .val (.int (1 : Int32)), .val (.int (0 : Int32)), .val (.ref a_UNDEFINED), .val (.ref a_FALSE), .unset] [])
      refine own_go (fun t k => XS.aload X20.here hx rfl (hb hby at_26) rfl rfl k) ?_
      show own_G p e below _ T20 (mkF m 28 #[.val (.int i0), .val (.int i1), .val (.int (1 : Int32)), .val (.int (0 : Int32)), .val (.ref a_UNDEFINED), .val (.ref a_FALSE), .unset] [(.ref a_UNDEFINED)])
      refine own_go (fun t k => XS.aload X20.here hx rfl (hb hby at_28) rfl rfl k) ?_
      show own_G p e below _ T20 (mkF m 30 #[.val (.int i0), .val (.int i1), .val (.int (1 : Int32)), .val (.int (0 : Int32)), .val (.ref a_UNDEFINED), .val (.ref a_FALSE), .unset] [(.ref a_FALSE), (.ref a_UNDEFINED)])
      obtain ⟨T21, L21, v21, X21, ⟨rfl, rfl, q21⟩, st21⟩ := own_callV X20 hx hZ (y := (⟨"com/example/sownd/sownd/model/TruthValue", "or", "(Lcom/example/sownd/sownd/model/TruthValue;)Lcom/example/sownd/sownd/model/TruthValue;"⟩ : MethodName)) (z := (⟨"com/example/sownd/sownd/model/TruthValue", "or", "(Lcom/example/sownd/sownd/model/TruthValue;)Lcom/example/sownd/sownd/model/TruthValue;"⟩ : MethodName)) hown (hw _ (List.mem_of_getElem? (i := 8) rfl)) (hw _ (List.mem_of_getElem? (i := 9) rfl)) (hw _ (List.mem_of_getElem? (i := 11) rfl)) (hw _ (List.mem_of_getElem? (i := 11) rfl)) (hw _ (List.mem_of_getElem? (i := 10) rfl)) (hw _ (List.mem_of_getElem? (i := 12) rfl)) (hw _ (List.mem_of_getElem? (i := 6) rfl)) (notFace_of_selects (args := #[]) (mvT hZ (hw _ (List.mem_of_getElem? (i := 11) rfl)))) (by decide) (c_op l Z a0 hw a_FALSE a_TRUE a_UNDEFINED a_UNDEFINED a_FALSE h0 B ) q20 E_UNDEFINED (argsL := [(.ref a_FALSE)]) (rest := []) (g := (mkF m 30 #[.val (.int i0), .val (.int i1), .val (.int (1 : Int32)), .val (.int (0 : Int32)), .val (.ref a_UNDEFINED), .val (.ref a_FALSE), .unset] [(.ref a_FALSE), (.ref a_UNDEFINED)])) rfl (by rw [hml]; rfl) (ps := [(.object "com/example/sownd/sownd/model/TruthValue")]) (r := (some (.object "com/example/sownd/sownd/model/TruthValue"))) (by decide +kernel) rfl rfl (W := 0) (by show 2 * 0 + _ ≤ _; exact Nat.le_of_eq rfl) (hb hby at_30) (by decide) (by decide) (by decide) (by decide)
      have N21 := Fr.app N20 (Fr.nil n0)
      refine own_go st21 ?_
      show own_G p e below _ T21 (mkF m 33 #[.val (.int i0), .val (.int i1), .val (.int (1 : Int32)), .val (.int (0 : Int32)), .val (.ref a_UNDEFINED), .val (.ref a_FALSE), .unset] [(.ref (own_op a_FALSE a_TRUE a_UNDEFINED a_UNDEFINED a_FALSE))])
      have r21 : (own_op a_FALSE a_TRUE a_UNDEFINED a_UNDEFINED a_FALSE) = a_UNDEFINED := by unfold own_op; rw [if_neg (Fld.ne F_UNDEFINED_ordinal F_TRUE_ordinal (own_neV (by decide))), if_neg (Fld.ne F_FALSE_ordinal F_TRUE_ordinal (own_neV (by decide))), if_pos (rfl : a_UNDEFINED = a_UNDEFINED)]
      rw [r21]
      show own_G p e below _ T21 (mkF m 33 #[.val (.int i0), .val (.int i1), .val (.int (1 : Int32)), .val (.int (0 : Int32)), .val (.ref a_UNDEFINED), .val (.ref a_FALSE), .unset] [(.ref a_UNDEFINED)])
      refine own_go (fun t k => XS.astore X21.here hx rfl (hb hby at_33) rfl rfl (l' := #[.val (.int i0), .val (.int i1), .val (.int (1 : Int32)), .val (.int (0 : Int32)), .val (.ref a_UNDEFINED), .val (.ref a_FALSE), .val (.ref a_UNDEFINED)]) rfl k) ?_
      show own_G p e below _ T21 (mkF m 35 #[.val (.int i0), .val (.int i1), .val (.int (1 : Int32)), .val (.int (0 : Int32)), .val (.ref a_UNDEFINED), .val (.ref a_FALSE), .val (.ref a_UNDEFINED)] [])
      refine own_go (fun t k => XS.aload X21.here hx rfl (hb hby at_35) rfl rfl k) ?_
      show own_G p e below _ T21 (mkF m 37 #[.val (.int i0), .val (.int i1), .val (.int (1 : Int32)), .val (.int (0 : Int32)), .val (.ref a_UNDEFINED), .val (.ref a_FALSE), .val (.ref a_UNDEFINED)] [(.ref a_UNDEFINED)])
      refine own_go (fun t k => XS.iloadN X21.here hx rfl (hb hby at_37) rfl k) ?_
      show own_G p e below _ T21 (mkF m 38 #[.val (.int i0), .val (.int i1), .val (.int (1 : Int32)), .val (.int (0 : Int32)), .val (.ref a_UNDEFINED), .val (.ref a_FALSE), .val (.ref a_UNDEFINED)] [(.int (1 : Int32)), (.ref a_UNDEFINED)])
      refine own_go (fun t k => XS.iloadN X21.here hx rfl (hb hby at_38) rfl k) ?_
      show own_G p e below _ T21 (mkF m 39 #[.val (.int i0), .val (.int i1), .val (.int (1 : Int32)), .val (.int (0 : Int32)), .val (.ref a_UNDEFINED), .val (.ref a_FALSE), .val (.ref a_UNDEFINED)] [(.int (0 : Int32)), (.int (1 : Int32)), (.ref a_UNDEFINED)])
      obtain ⟨T22, L22, v22, X22, ⟨rfl, rfl, q22⟩, st22⟩ := own_callS X21 hx hZ (y := (⟨"java/lang/Math", "max", "(II)I"⟩ : MethodName)) hown (hw _ (List.mem_of_getElem? (i := 18) rfl)) (hw _ (List.mem_of_getElem? (i := 19) rfl)) (hw _ (List.mem_of_getElem? (i := 20) rfl)) (hw _ (List.mem_of_getElem? (i := 21) rfl)) (by decide) (c_mm l Z a0 hw (1 : Int32) (0 : Int32) h0  ) q21 (argsL := [(.int (1 : Int32)), (.int (0 : Int32))]) (rest := [(.ref a_UNDEFINED)]) (g := (mkF m 39 #[.val (.int i0), .val (.int i1), .val (.int (1 : Int32)), .val (.int (0 : Int32)), .val (.ref a_UNDEFINED), .val (.ref a_FALSE), .val (.ref a_UNDEFINED)] [(.int (0 : Int32)), (.int (1 : Int32)), (.ref a_UNDEFINED)])) rfl (by rw [hml]; rfl) (ps := [.int, .int]) (r := (some .int)) (by decide +kernel) rfl rfl (W := 1) (by show 2 * 0 + _ ≤ _; exact Nat.le_of_eq rfl) (hb hby at_39) (by decide) (by decide) (by decide) (by decide)
      have N22 := Fr.app N21 (Fr.nil n0)
      refine own_go st22 ?_
      show own_G p e below _ T22 (mkF m 42 #[.val (.int i0), .val (.int i1), .val (.int (1 : Int32)), .val (.int (0 : Int32)), .val (.ref a_UNDEFINED), .val (.ref a_FALSE), .val (.ref a_UNDEFINED)] [(.int (own_mm (1 : Int32) (0 : Int32))), (.ref a_UNDEFINED)])
      have r22 : (own_mm (1 : Int32) (0 : Int32)) = (1 : Int32) := by unfold own_mm; rw [if_neg (show ¬ ((1 : Int32) < (0 : Int32)) by decide)]
      rw [r22]
      show own_G p e below _ T22 (mkF m 42 #[.val (.int i0), .val (.int i1), .val (.int (1 : Int32)), .val (.int (0 : Int32)), .val (.ref a_UNDEFINED), .val (.ref a_FALSE), .val (.ref a_UNDEFINED)] [(.int (1 : Int32)), (.ref a_UNDEFINED)])
      obtain ⟨T23, L23, v23, X23, ⟨rfl, rfl, q23⟩, st23⟩ := own_callS X22 hx hZ (y := (⟨"com/example/sownd/sownd/model/TruthValueOrPinLaw", "pick", "(I)Lcom/example/sownd/sownd/model/TruthValue;"⟩ : MethodName)) hown (hw _ (List.mem_of_getElem? (i := 1) rfl)) (hw _ (List.mem_of_getElem? (i := 2) rfl)) (hw _ (List.mem_of_getElem? (i := 3) rfl)) (hw _ (List.mem_of_getElem? (i := 4) rfl)) (by decide) (c_pick l Z a0 hw a_FALSE a_TRUE a_UNDEFINED (1 : Int32) h0 B ) q22 (argsL := [(.int (1 : Int32))]) (rest := [(.ref a_UNDEFINED)]) (g := (mkF m 42 #[.val (.int i0), .val (.int i1), .val (.int (1 : Int32)), .val (.int (0 : Int32)), .val (.ref a_UNDEFINED), .val (.ref a_FALSE), .val (.ref a_UNDEFINED)] [(.int (1 : Int32)), (.ref a_UNDEFINED)])) rfl (by rw [hml]; rfl) (ps := [.int]) (r := (some (.object "com/example/sownd/sownd/model/TruthValue"))) (by decide +kernel) rfl rfl (W := 1) (by show 2 * 0 + _ ≤ _; exact Nat.le_of_eq rfl) (hb hby at_42) (by decide) (by decide) (by decide) (by decide)
      have N23 := Fr.app N22 (Fr.nil n0)
      refine own_go st23 ?_
      show own_G p e below _ T23 (mkF m 45 #[.val (.int i0), .val (.int i1), .val (.int (1 : Int32)), .val (.int (0 : Int32)), .val (.ref a_UNDEFINED), .val (.ref a_FALSE), .val (.ref a_UNDEFINED)] [(.ref (own_pick a_FALSE a_TRUE a_UNDEFINED (1 : Int32))), (.ref a_UNDEFINED)])
      have r23 : (own_pick a_FALSE a_TRUE a_UNDEFINED (1 : Int32)) = a_UNDEFINED := by unfold own_pick; rw [if_neg (show ¬ ((1 : Int32) = (0 : Int32)) by decide), if_pos (show ((1 : Int32) = (1 : Int32)) by decide)]
      rw [r23]
      show own_G p e below _ T23 (mkF m 45 #[.val (.int i0), .val (.int i1), .val (.int (1 : Int32)), .val (.int (0 : Int32)), .val (.ref a_UNDEFINED), .val (.ref a_FALSE), .val (.ref a_UNDEFINED)] [(.ref a_UNDEFINED), (.ref a_UNDEFINED)])
      refine own_go (fun t k => Jvm.Free.XT.acmpNo X23.here hx rfl (hb hby at_45) rfl rfl rfl (own_acnF rfl) k) ?_
      show own_G p e below _ T23 (mkF m 48 #[.val (.int i0), .val (.int i1), .val (.int (1 : Int32)), .val (.int (0 : Int32)), .val (.ref a_UNDEFINED), .val (.ref a_FALSE), .val (.ref a_UNDEFINED)] [])
      refine own_go (fun t k => XS.iconst X23.here hx rfl (hb hby at_48) k) ?_
      show own_G p e below _ T23 (mkF m 49 #[.val (.int i0), .val (.int i1), .val (.int (1 : Int32)), .val (.int (0 : Int32)), .val (.ref a_UNDEFINED), .val (.ref a_FALSE), .val (.ref a_UNDEFINED)] [(.int (1 : Int32))])
      refine own_go (fun t k => XS.goto X23.here hx rfl (pc0 := 49) (pc' := 53) rfl (hb hby at_49) (by decide) (by decide) k) ?_
      show own_G p e below _ T23 (mkF m 53 #[.val (.int i0), .val (.int i1), .val (.int (1 : Int32)), .val (.int (0 : Int32)), .val (.ref a_UNDEFINED), .val (.ref a_FALSE), .val (.ref a_UNDEFINED)] [(.int (1 : Int32))])
      exact own_retN X23 hx hlk hret (by simp) (hb hby at_53) (by decide) (by decide) ⟨rfl, N23⟩
    · rw [hk18]
      show own_G p e below _ T0 (mkF m 13 #[.val (.int i0), .val (.int i1), .val (.int (1 : Int32)), .unset, .unset, .unset, .unset] [(.int (1 : Int32))])
      refine own_go (fun t k => XS.istoreN X0.here hx rfl (hb hby at_13) rfl (l' := #[.val (.int i0), .val (.int i1), .val (.int (1 : Int32)), .val (.int (1 : Int32)), .unset, .unset, .unset]) rfl k) ?_
      show own_G p e below _ T0 (mkF m 14 #[.val (.int i0), .val (.int i1), .val (.int (1 : Int32)), .val (.int (1 : Int32)), .unset, .unset, .unset] [])
      refine own_go (fun t k => XS.iloadN X0.here hx rfl (hb hby at_14) rfl k) ?_
      show own_G p e below _ T0 (mkF m 15 #[.val (.int i0), .val (.int i1), .val (.int (1 : Int32)), .val (.int (1 : Int32)), .unset, .unset, .unset] [(.int (1 : Int32))])
      obtain ⟨T24, L24, v24, X24, ⟨rfl, rfl, q24⟩, st24⟩ := own_callS X0 hx hZ (y := (⟨"com/example/sownd/sownd/model/TruthValueOrPinLaw", "pick", "(I)Lcom/example/sownd/sownd/model/TruthValue;"⟩ : MethodName)) hown (hw _ (List.mem_of_getElem? (i := 1) rfl)) (hw _ (List.mem_of_getElem? (i := 2) rfl)) (hw _ (List.mem_of_getElem? (i := 3) rfl)) (hw _ (List.mem_of_getElem? (i := 4) rfl)) (by decide) (c_pick l Z a0 hw a_FALSE a_TRUE a_UNDEFINED (1 : Int32) h0 B ) e0 (argsL := [(.int (1 : Int32))]) (rest := []) (g := (mkF m 15 #[.val (.int i0), .val (.int i1), .val (.int (1 : Int32)), .val (.int (1 : Int32)), .unset, .unset, .unset] [(.int (1 : Int32))])) rfl (by rw [hml]; rfl) (ps := [.int]) (r := (some (.object "com/example/sownd/sownd/model/TruthValue"))) (by decide +kernel) rfl rfl (W := 0) (by show 2 * 0 + _ ≤ _; exact Nat.le_of_eq rfl) (hb hby at_15) (by decide) (by decide) (by decide) (by decide)
      have N24 := Fr.app N0 (Fr.nil n0)
      refine own_go st24 ?_
      show own_G p e below _ T24 (mkF m 18 #[.val (.int i0), .val (.int i1), .val (.int (1 : Int32)), .val (.int (1 : Int32)), .unset, .unset, .unset] [(.ref (own_pick a_FALSE a_TRUE a_UNDEFINED (1 : Int32)))])
      have r24 : (own_pick a_FALSE a_TRUE a_UNDEFINED (1 : Int32)) = a_UNDEFINED := by unfold own_pick; rw [if_neg (show ¬ ((1 : Int32) = (0 : Int32)) by decide), if_pos (show ((1 : Int32) = (1 : Int32)) by decide)]
      rw [r24]
      show own_G p e below _ T24 (mkF m 18 #[.val (.int i0), .val (.int i1), .val (.int (1 : Int32)), .val (.int (1 : Int32)), .unset, .unset, .unset] [(.ref a_UNDEFINED)])
      refine own_go (fun t k => XS.astore X24.here hx rfl (hb hby at_18) rfl rfl (l' := #[.val (.int i0), .val (.int i1), .val (.int (1 : Int32)), .val (.int (1 : Int32)), .val (.ref a_UNDEFINED), .unset, .unset]) rfl k) ?_
      show own_G p e below _ T24 (mkF m 20 #[.val (.int i0), .val (.int i1), .val (.int (1 : Int32)), .val (.int (1 : Int32)), .val (.ref a_UNDEFINED), .unset, .unset] [])
      refine own_go (fun t k => XS.iloadN X24.here hx rfl (hb hby at_20) rfl k) ?_
      show own_G p e below _ T24 (mkF m 21 #[.val (.int i0), .val (.int i1), .val (.int (1 : Int32)), .val (.int (1 : Int32)), .val (.ref a_UNDEFINED), .unset, .unset] [(.int (1 : Int32))])
      obtain ⟨T25, L25, v25, X25, ⟨rfl, rfl, q25⟩, st25⟩ := own_callS X24 hx hZ (y := (⟨"com/example/sownd/sownd/model/TruthValueOrPinLaw", "pick", "(I)Lcom/example/sownd/sownd/model/TruthValue;"⟩ : MethodName)) hown (hw _ (List.mem_of_getElem? (i := 1) rfl)) (hw _ (List.mem_of_getElem? (i := 2) rfl)) (hw _ (List.mem_of_getElem? (i := 3) rfl)) (hw _ (List.mem_of_getElem? (i := 4) rfl)) (by decide) (c_pick l Z a0 hw a_FALSE a_TRUE a_UNDEFINED (1 : Int32) h0 B ) q24 (argsL := [(.int (1 : Int32))]) (rest := []) (g := (mkF m 21 #[.val (.int i0), .val (.int i1), .val (.int (1 : Int32)), .val (.int (1 : Int32)), .val (.ref a_UNDEFINED), .unset, .unset] [(.int (1 : Int32))])) rfl (by rw [hml]; rfl) (ps := [.int]) (r := (some (.object "com/example/sownd/sownd/model/TruthValue"))) (by decide +kernel) rfl rfl (W := 0) (by show 2 * 0 + _ ≤ _; exact Nat.le_of_eq rfl) (hb hby at_21) (by decide) (by decide) (by decide) (by decide)
      have N25 := Fr.app N24 (Fr.nil n0)
      refine own_go st25 ?_
      show own_G p e below _ T25 (mkF m 24 #[.val (.int i0), .val (.int i1), .val (.int (1 : Int32)), .val (.int (1 : Int32)), .val (.ref a_UNDEFINED), .unset, .unset] [(.ref (own_pick a_FALSE a_TRUE a_UNDEFINED (1 : Int32)))])
      have r25 : (own_pick a_FALSE a_TRUE a_UNDEFINED (1 : Int32)) = a_UNDEFINED := by unfold own_pick; rw [if_neg (show ¬ ((1 : Int32) = (0 : Int32)) by decide), if_pos (show ((1 : Int32) = (1 : Int32)) by decide)]
      rw [r25]
      show own_G p e below _ T25 (mkF m 24 #[.val (.int i0), .val (.int i1), .val (.int (1 : Int32)), .val (.int (1 : Int32)), .val (.ref a_UNDEFINED), .unset, .unset] [(.ref a_UNDEFINED)])
      refine own_go (fun t k => XS.astore X25.here hx rfl (hb hby at_24) rfl rfl (l' := #[.val (.int i0), .val (.int i1), .val (.int (1 : Int32)), .val (.int (1 : Int32)), .val (.ref a_UNDEFINED), .val (.ref a_UNDEFINED), .unset]) rfl k) ?_
      show own_G p e below _ T25 (mkF m 26 #[.val (.int i0), .val (.int i1), .val (.int (1 : Int32)), .val (.int (1 : Int32)), .val (.ref a_UNDEFINED), .val (.ref a_UNDEFINED), .unset] [])
      refine own_go (fun t k => XS.aload X25.here hx rfl (hb hby at_26) rfl rfl k) ?_
      show own_G p e below _ T25 (mkF m 28 #[.val (.int i0), .val (.int i1), .val (.int (1 : Int32)), .val (.int (1 : Int32)), .val (.ref a_UNDEFINED), .val (.ref a_UNDEFINED), .unset] [(.ref a_UNDEFINED)])
      refine own_go (fun t k => XS.aload X25.here hx rfl (hb hby at_28) rfl rfl k) ?_
      show own_G p e below _ T25 (mkF m 30 #[.val (.int i0), .val (.int i1), .val (.int (1 : Int32)), .val (.int (1 : Int32)), .val (.ref a_UNDEFINED), .val (.ref a_UNDEFINED), .unset] [(.ref a_UNDEFINED), (.ref a_UNDEFINED)])
      obtain ⟨T26, L26, v26, X26, ⟨rfl, rfl, q26⟩, st26⟩ := own_callV X25 hx hZ (y := (⟨"com/example/sownd/sownd/model/TruthValue", "or", "(Lcom/example/sownd/sownd/model/TruthValue;)Lcom/example/sownd/sownd/model/TruthValue;"⟩ : MethodName)) (z := (⟨"com/example/sownd/sownd/model/TruthValue", "or", "(Lcom/example/sownd/sownd/model/TruthValue;)Lcom/example/sownd/sownd/model/TruthValue;"⟩ : MethodName)) hown (hw _ (List.mem_of_getElem? (i := 8) rfl)) (hw _ (List.mem_of_getElem? (i := 9) rfl)) (hw _ (List.mem_of_getElem? (i := 11) rfl)) (hw _ (List.mem_of_getElem? (i := 11) rfl)) (hw _ (List.mem_of_getElem? (i := 10) rfl)) (hw _ (List.mem_of_getElem? (i := 12) rfl)) (hw _ (List.mem_of_getElem? (i := 6) rfl)) (notFace_of_selects (args := #[]) (mvT hZ (hw _ (List.mem_of_getElem? (i := 11) rfl)))) (by decide) (c_op l Z a0 hw a_FALSE a_TRUE a_UNDEFINED a_UNDEFINED a_UNDEFINED h0 B ) q25 E_UNDEFINED (argsL := [(.ref a_UNDEFINED)]) (rest := []) (g := (mkF m 30 #[.val (.int i0), .val (.int i1), .val (.int (1 : Int32)), .val (.int (1 : Int32)), .val (.ref a_UNDEFINED), .val (.ref a_UNDEFINED), .unset] [(.ref a_UNDEFINED), (.ref a_UNDEFINED)])) rfl (by rw [hml]; rfl) (ps := [(.object "com/example/sownd/sownd/model/TruthValue")]) (r := (some (.object "com/example/sownd/sownd/model/TruthValue"))) (by decide +kernel) rfl rfl (W := 0) (by show 2 * 0 + _ ≤ _; exact Nat.le_of_eq rfl) (hb hby at_30) (by decide) (by decide) (by decide) (by decide)
      have N26 := Fr.app N25 (Fr.nil n0)
      refine own_go st26 ?_
      show own_G p e below _ T26 (mkF m 33 #[.val (.int i0), .val (.int i1), .val (.int (1 : Int32)), .val (.int (1 : Int32)), .val (.ref a_UNDEFINED), .val (.ref a_UNDEFINED), .unset] [(.ref (own_op a_FALSE a_TRUE a_UNDEFINED a_UNDEFINED a_UNDEFINED))])
      have r26 : (own_op a_FALSE a_TRUE a_UNDEFINED a_UNDEFINED a_UNDEFINED) = a_UNDEFINED := by unfold own_op; rw [if_neg (Fld.ne F_UNDEFINED_ordinal F_TRUE_ordinal (own_neV (by decide))), if_neg (Fld.ne F_UNDEFINED_ordinal F_TRUE_ordinal (own_neV (by decide))), if_pos (rfl : a_UNDEFINED = a_UNDEFINED)]
      rw [r26]
      show own_G p e below _ T26 (mkF m 33 #[.val (.int i0), .val (.int i1), .val (.int (1 : Int32)), .val (.int (1 : Int32)), .val (.ref a_UNDEFINED), .val (.ref a_UNDEFINED), .unset] [(.ref a_UNDEFINED)])
      refine own_go (fun t k => XS.astore X26.here hx rfl (hb hby at_33) rfl rfl (l' := #[.val (.int i0), .val (.int i1), .val (.int (1 : Int32)), .val (.int (1 : Int32)), .val (.ref a_UNDEFINED), .val (.ref a_UNDEFINED), .val (.ref a_UNDEFINED)]) rfl k) ?_
      show own_G p e below _ T26 (mkF m 35 #[.val (.int i0), .val (.int i1), .val (.int (1 : Int32)), .val (.int (1 : Int32)), .val (.ref a_UNDEFINED), .val (.ref a_UNDEFINED), .val (.ref a_UNDEFINED)] [])
      refine own_go (fun t k => XS.aload X26.here hx rfl (hb hby at_35) rfl rfl k) ?_
      show own_G p e below _ T26 (mkF m 37 #[.val (.int i0), .val (.int i1), .val (.int (1 : Int32)), .val (.int (1 : Int32)), .val (.ref a_UNDEFINED), .val (.ref a_UNDEFINED), .val (.ref a_UNDEFINED)] [(.ref a_UNDEFINED)])
      refine own_go (fun t k => XS.iloadN X26.here hx rfl (hb hby at_37) rfl k) ?_
      show own_G p e below _ T26 (mkF m 38 #[.val (.int i0), .val (.int i1), .val (.int (1 : Int32)), .val (.int (1 : Int32)), .val (.ref a_UNDEFINED), .val (.ref a_UNDEFINED), .val (.ref a_UNDEFINED)] [(.int (1 : Int32)), (.ref a_UNDEFINED)])
      refine own_go (fun t k => XS.iloadN X26.here hx rfl (hb hby at_38) rfl k) ?_
      show own_G p e below _ T26 (mkF m 39 #[.val (.int i0), .val (.int i1), .val (.int (1 : Int32)), .val (.int (1 : Int32)), .val (.ref a_UNDEFINED), .val (.ref a_UNDEFINED), .val (.ref a_UNDEFINED)] [(.int (1 : Int32)), (.int (1 : Int32)), (.ref a_UNDEFINED)])
      obtain ⟨T27, L27, v27, X27, ⟨rfl, rfl, q27⟩, st27⟩ := own_callS X26 hx hZ (y := (⟨"java/lang/Math", "max", "(II)I"⟩ : MethodName)) hown (hw _ (List.mem_of_getElem? (i := 18) rfl)) (hw _ (List.mem_of_getElem? (i := 19) rfl)) (hw _ (List.mem_of_getElem? (i := 20) rfl)) (hw _ (List.mem_of_getElem? (i := 21) rfl)) (by decide) (c_mm l Z a0 hw (1 : Int32) (1 : Int32) h0  ) q26 (argsL := [(.int (1 : Int32)), (.int (1 : Int32))]) (rest := [(.ref a_UNDEFINED)]) (g := (mkF m 39 #[.val (.int i0), .val (.int i1), .val (.int (1 : Int32)), .val (.int (1 : Int32)), .val (.ref a_UNDEFINED), .val (.ref a_UNDEFINED), .val (.ref a_UNDEFINED)] [(.int (1 : Int32)), (.int (1 : Int32)), (.ref a_UNDEFINED)])) rfl (by rw [hml]; rfl) (ps := [.int, .int]) (r := (some .int)) (by decide +kernel) rfl rfl (W := 1) (by show 2 * 0 + _ ≤ _; exact Nat.le_of_eq rfl) (hb hby at_39) (by decide) (by decide) (by decide) (by decide)
      have N27 := Fr.app N26 (Fr.nil n0)
      refine own_go st27 ?_
      show own_G p e below _ T27 (mkF m 42 #[.val (.int i0), .val (.int i1), .val (.int (1 : Int32)), .val (.int (1 : Int32)), .val (.ref a_UNDEFINED), .val (.ref a_UNDEFINED), .val (.ref a_UNDEFINED)] [(.int (own_mm (1 : Int32) (1 : Int32))), (.ref a_UNDEFINED)])
      have r27 : (own_mm (1 : Int32) (1 : Int32)) = (1 : Int32) := by unfold own_mm; rw [if_neg (show ¬ ((1 : Int32) < (1 : Int32)) by decide)]
      rw [r27]
      show own_G p e below _ T27 (mkF m 42 #[.val (.int i0), .val (.int i1), .val (.int (1 : Int32)), .val (.int (1 : Int32)), .val (.ref a_UNDEFINED), .val (.ref a_UNDEFINED), .val (.ref a_UNDEFINED)] [(.int (1 : Int32)), (.ref a_UNDEFINED)])
      obtain ⟨T28, L28, v28, X28, ⟨rfl, rfl, q28⟩, st28⟩ := own_callS X27 hx hZ (y := (⟨"com/example/sownd/sownd/model/TruthValueOrPinLaw", "pick", "(I)Lcom/example/sownd/sownd/model/TruthValue;"⟩ : MethodName)) hown (hw _ (List.mem_of_getElem? (i := 1) rfl)) (hw _ (List.mem_of_getElem? (i := 2) rfl)) (hw _ (List.mem_of_getElem? (i := 3) rfl)) (hw _ (List.mem_of_getElem? (i := 4) rfl)) (by decide) (c_pick l Z a0 hw a_FALSE a_TRUE a_UNDEFINED (1 : Int32) h0 B ) q27 (argsL := [(.int (1 : Int32))]) (rest := [(.ref a_UNDEFINED)]) (g := (mkF m 42 #[.val (.int i0), .val (.int i1), .val (.int (1 : Int32)), .val (.int (1 : Int32)), .val (.ref a_UNDEFINED), .val (.ref a_UNDEFINED), .val (.ref a_UNDEFINED)] [(.int (1 : Int32)), (.ref a_UNDEFINED)])) rfl (by rw [hml]; rfl) (ps := [.int]) (r := (some (.object "com/example/sownd/sownd/model/TruthValue"))) (by decide +kernel) rfl rfl (W := 1) (by show 2 * 0 + _ ≤ _; exact Nat.le_of_eq rfl) (hb hby at_42) (by decide) (by decide) (by decide) (by decide)
      have N28 := Fr.app N27 (Fr.nil n0)
      refine own_go st28 ?_
      show own_G p e below _ T28 (mkF m 45 #[.val (.int i0), .val (.int i1), .val (.int (1 : Int32)), .val (.int (1 : Int32)), .val (.ref a_UNDEFINED), .val (.ref a_UNDEFINED), .val (.ref a_UNDEFINED)] [(.ref (own_pick a_FALSE a_TRUE a_UNDEFINED (1 : Int32))), (.ref a_UNDEFINED)])
      have r28 : (own_pick a_FALSE a_TRUE a_UNDEFINED (1 : Int32)) = a_UNDEFINED := by unfold own_pick; rw [if_neg (show ¬ ((1 : Int32) = (0 : Int32)) by decide), if_pos (show ((1 : Int32) = (1 : Int32)) by decide)]
      rw [r28]
      show own_G p e below _ T28 (mkF m 45 #[.val (.int i0), .val (.int i1), .val (.int (1 : Int32)), .val (.int (1 : Int32)), .val (.ref a_UNDEFINED), .val (.ref a_UNDEFINED), .val (.ref a_UNDEFINED)] [(.ref a_UNDEFINED), (.ref a_UNDEFINED)])
      refine own_go (fun t k => Jvm.Free.XT.acmpNo X28.here hx rfl (hb hby at_45) rfl rfl rfl (own_acnF rfl) k) ?_
      show own_G p e below _ T28 (mkF m 48 #[.val (.int i0), .val (.int i1), .val (.int (1 : Int32)), .val (.int (1 : Int32)), .val (.ref a_UNDEFINED), .val (.ref a_UNDEFINED), .val (.ref a_UNDEFINED)] [])
      refine own_go (fun t k => XS.iconst X28.here hx rfl (hb hby at_48) k) ?_
      show own_G p e below _ T28 (mkF m 49 #[.val (.int i0), .val (.int i1), .val (.int (1 : Int32)), .val (.int (1 : Int32)), .val (.ref a_UNDEFINED), .val (.ref a_UNDEFINED), .val (.ref a_UNDEFINED)] [(.int (1 : Int32))])
      refine own_go (fun t k => XS.goto X28.here hx rfl (pc0 := 49) (pc' := 53) rfl (hb hby at_49) (by decide) (by decide) k) ?_
      show own_G p e below _ T28 (mkF m 53 #[.val (.int i0), .val (.int i1), .val (.int (1 : Int32)), .val (.int (1 : Int32)), .val (.ref a_UNDEFINED), .val (.ref a_UNDEFINED), .val (.ref a_UNDEFINED)] [(.int (1 : Int32))])
      exact own_retN X28 hx hlk hret (by simp) (hb hby at_53) (by decide) (by decide) ⟨rfl, N28⟩
    · rw [hk18]
      show own_G p e below _ T0 (mkF m 13 #[.val (.int i0), .val (.int i1), .val (.int (1 : Int32)), .unset, .unset, .unset, .unset] [(.int (2 : Int32))])
      refine own_go (fun t k => XS.istoreN X0.here hx rfl (hb hby at_13) rfl (l' := #[.val (.int i0), .val (.int i1), .val (.int (1 : Int32)), .val (.int (2 : Int32)), .unset, .unset, .unset]) rfl k) ?_
      show own_G p e below _ T0 (mkF m 14 #[.val (.int i0), .val (.int i1), .val (.int (1 : Int32)), .val (.int (2 : Int32)), .unset, .unset, .unset] [])
      refine own_go (fun t k => XS.iloadN X0.here hx rfl (hb hby at_14) rfl k) ?_
      show own_G p e below _ T0 (mkF m 15 #[.val (.int i0), .val (.int i1), .val (.int (1 : Int32)), .val (.int (2 : Int32)), .unset, .unset, .unset] [(.int (1 : Int32))])
      obtain ⟨T29, L29, v29, X29, ⟨rfl, rfl, q29⟩, st29⟩ := own_callS X0 hx hZ (y := (⟨"com/example/sownd/sownd/model/TruthValueOrPinLaw", "pick", "(I)Lcom/example/sownd/sownd/model/TruthValue;"⟩ : MethodName)) hown (hw _ (List.mem_of_getElem? (i := 1) rfl)) (hw _ (List.mem_of_getElem? (i := 2) rfl)) (hw _ (List.mem_of_getElem? (i := 3) rfl)) (hw _ (List.mem_of_getElem? (i := 4) rfl)) (by decide) (c_pick l Z a0 hw a_FALSE a_TRUE a_UNDEFINED (1 : Int32) h0 B ) e0 (argsL := [(.int (1 : Int32))]) (rest := []) (g := (mkF m 15 #[.val (.int i0), .val (.int i1), .val (.int (1 : Int32)), .val (.int (2 : Int32)), .unset, .unset, .unset] [(.int (1 : Int32))])) rfl (by rw [hml]; rfl) (ps := [.int]) (r := (some (.object "com/example/sownd/sownd/model/TruthValue"))) (by decide +kernel) rfl rfl (W := 0) (by show 2 * 0 + _ ≤ _; exact Nat.le_of_eq rfl) (hb hby at_15) (by decide) (by decide) (by decide) (by decide)
      have N29 := Fr.app N0 (Fr.nil n0)
      refine own_go st29 ?_
      show own_G p e below _ T29 (mkF m 18 #[.val (.int i0), .val (.int i1), .val (.int (1 : Int32)), .val (.int (2 : Int32)), .unset, .unset, .unset] [(.ref (own_pick a_FALSE a_TRUE a_UNDEFINED (1 : Int32)))])
      have r29 : (own_pick a_FALSE a_TRUE a_UNDEFINED (1 : Int32)) = a_UNDEFINED := by unfold own_pick; rw [if_neg (show ¬ ((1 : Int32) = (0 : Int32)) by decide), if_pos (show ((1 : Int32) = (1 : Int32)) by decide)]
      rw [r29]
      show own_G p e below _ T29 (mkF m 18 #[.val (.int i0), .val (.int i1), .val (.int (1 : Int32)), .val (.int (2 : Int32)), .unset, .unset, .unset] [(.ref a_UNDEFINED)])
      refine own_go (fun t k => XS.astore X29.here hx rfl (hb hby at_18) rfl rfl (l' := #[.val (.int i0), .val (.int i1), .val (.int (1 : Int32)), .val (.int (2 : Int32)), .val (.ref a_UNDEFINED), .unset, .unset]) rfl k) ?_
      show own_G p e below _ T29 (mkF m 20 #[.val (.int i0), .val (.int i1), .val (.int (1 : Int32)), .val (.int (2 : Int32)), .val (.ref a_UNDEFINED), .unset, .unset] [])
      refine own_go (fun t k => XS.iloadN X29.here hx rfl (hb hby at_20) rfl k) ?_
      show own_G p e below _ T29 (mkF m 21 #[.val (.int i0), .val (.int i1), .val (.int (1 : Int32)), .val (.int (2 : Int32)), .val (.ref a_UNDEFINED), .unset, .unset] [(.int (2 : Int32))])
      obtain ⟨T30, L30, v30, X30, ⟨rfl, rfl, q30⟩, st30⟩ := own_callS X29 hx hZ (y := (⟨"com/example/sownd/sownd/model/TruthValueOrPinLaw", "pick", "(I)Lcom/example/sownd/sownd/model/TruthValue;"⟩ : MethodName)) hown (hw _ (List.mem_of_getElem? (i := 1) rfl)) (hw _ (List.mem_of_getElem? (i := 2) rfl)) (hw _ (List.mem_of_getElem? (i := 3) rfl)) (hw _ (List.mem_of_getElem? (i := 4) rfl)) (by decide) (c_pick l Z a0 hw a_FALSE a_TRUE a_UNDEFINED (2 : Int32) h0 B ) q29 (argsL := [(.int (2 : Int32))]) (rest := []) (g := (mkF m 21 #[.val (.int i0), .val (.int i1), .val (.int (1 : Int32)), .val (.int (2 : Int32)), .val (.ref a_UNDEFINED), .unset, .unset] [(.int (2 : Int32))])) rfl (by rw [hml]; rfl) (ps := [.int]) (r := (some (.object "com/example/sownd/sownd/model/TruthValue"))) (by decide +kernel) rfl rfl (W := 0) (by show 2 * 0 + _ ≤ _; exact Nat.le_of_eq rfl) (hb hby at_21) (by decide) (by decide) (by decide) (by decide)
      have N30 := Fr.app N29 (Fr.nil n0)
      refine own_go st30 ?_
      show own_G p e below _ T30 (mkF m 24 #[.val (.int i0), .val (.int i1), .val (.int (1 : Int32)), .val (.int (2 : Int32)), .val (.ref a_UNDEFINED), .unset, .unset] [(.ref (own_pick a_FALSE a_TRUE a_UNDEFINED (2 : Int32)))])
      have r30 : (own_pick a_FALSE a_TRUE a_UNDEFINED (2 : Int32)) = a_TRUE := by unfold own_pick; rw [if_neg (show ¬ ((2 : Int32) = (0 : Int32)) by decide), if_neg (show ¬ ((2 : Int32) = (1 : Int32)) by decide)]
      rw [r30]
      show own_G p e below _ T30 (mkF m 24 #[.val (.int i0), .val (.int i1), .val (.int (1 : Int32)), .val (.int (2 : Int32)), .val (.ref a_UNDEFINED), .unset, .unset] [(.ref a_TRUE)])
      refine own_go (fun t k => XS.astore X30.here hx rfl (hb hby at_24) rfl rfl (l' := #[.val (.int i0), .val (.int i1), .val (.int (1 : Int32)), .val (.int (2 : Int32)), .val (.ref a_UNDEFINED), .val (.ref a_TRUE), .unset]) rfl k) ?_
      show own_G p e below _ T30 (mkF m 26 #[.val (.int i0), .val (.int i1), .val (.int (1 : Int32)), .val (.int (2 : Int32)), .val (.ref a_UNDEFINED), .val (.ref a_TRUE), .unset] [])
      refine own_go (fun t k => XS.aload X30.here hx rfl (hb hby at_26) rfl rfl k) ?_
      show own_G p e below _ T30 (mkF m 28 #[.val (.int i0), .val (.int i1), .val (.int (1 : Int32)), .val (.int (2 : Int32)), .val (.ref a_UNDEFINED), .val (.ref a_TRUE), .unset] [(.ref a_UNDEFINED)])
      refine own_go (fun t k => XS.aload X30.here hx rfl (hb hby at_28) rfl rfl k) ?_
      show own_G p e below _ T30 (mkF m 30 #[.val (.int i0), .val (.int i1), .val (.int (1 : Int32)), .val (.int (2 : Int32)), .val (.ref a_UNDEFINED), .val (.ref a_TRUE), .unset] [(.ref a_TRUE), (.ref a_UNDEFINED)])
      obtain ⟨T31, L31, v31, X31, ⟨rfl, rfl, q31⟩, st31⟩ := own_callV X30 hx hZ (y := (⟨"com/example/sownd/sownd/model/TruthValue", "or", "(Lcom/example/sownd/sownd/model/TruthValue;)Lcom/example/sownd/sownd/model/TruthValue;"⟩ : MethodName)) (z := (⟨"com/example/sownd/sownd/model/TruthValue", "or", "(Lcom/example/sownd/sownd/model/TruthValue;)Lcom/example/sownd/sownd/model/TruthValue;"⟩ : MethodName)) hown (hw _ (List.mem_of_getElem? (i := 8) rfl)) (hw _ (List.mem_of_getElem? (i := 9) rfl)) (hw _ (List.mem_of_getElem? (i := 11) rfl)) (hw _ (List.mem_of_getElem? (i := 11) rfl)) (hw _ (List.mem_of_getElem? (i := 10) rfl)) (hw _ (List.mem_of_getElem? (i := 12) rfl)) (hw _ (List.mem_of_getElem? (i := 6) rfl)) (notFace_of_selects (args := #[]) (mvT hZ (hw _ (List.mem_of_getElem? (i := 11) rfl)))) (by decide) (c_op l Z a0 hw a_FALSE a_TRUE a_UNDEFINED a_UNDEFINED a_TRUE h0 B ) q30 E_UNDEFINED (argsL := [(.ref a_TRUE)]) (rest := []) (g := (mkF m 30 #[.val (.int i0), .val (.int i1), .val (.int (1 : Int32)), .val (.int (2 : Int32)), .val (.ref a_UNDEFINED), .val (.ref a_TRUE), .unset] [(.ref a_TRUE), (.ref a_UNDEFINED)])) rfl (by rw [hml]; rfl) (ps := [(.object "com/example/sownd/sownd/model/TruthValue")]) (r := (some (.object "com/example/sownd/sownd/model/TruthValue"))) (by decide +kernel) rfl rfl (W := 0) (by show 2 * 0 + _ ≤ _; exact Nat.le_of_eq rfl) (hb hby at_30) (by decide) (by decide) (by decide) (by decide)
      have N31 := Fr.app N30 (Fr.nil n0)
      refine own_go st31 ?_
      show own_G p e below _ T31 (mkF m 33 #[.val (.int i0), .val (.int i1), .val (.int (1 : Int32)), .val (.int (2 : Int32)), .val (.ref a_UNDEFINED), .val (.ref a_TRUE), .unset] [(.ref (own_op a_FALSE a_TRUE a_UNDEFINED a_UNDEFINED a_TRUE))])
      have r31 : (own_op a_FALSE a_TRUE a_UNDEFINED a_UNDEFINED a_TRUE) = a_TRUE := by unfold own_op; rw [if_neg (Fld.ne F_UNDEFINED_ordinal F_TRUE_ordinal (own_neV (by decide))), if_pos (rfl : a_TRUE = a_TRUE)]
      rw [r31]
      show own_G p e below _ T31 (mkF m 33 #[.val (.int i0), .val (.int i1), .val (.int (1 : Int32)), .val (.int (2 : Int32)), .val (.ref a_UNDEFINED), .val (.ref a_TRUE), .unset] [(.ref a_TRUE)])
      refine own_go (fun t k => XS.astore X31.here hx rfl (hb hby at_33) rfl rfl (l' := #[.val (.int i0), .val (.int i1), .val (.int (1 : Int32)), .val (.int (2 : Int32)), .val (.ref a_UNDEFINED), .val (.ref a_TRUE), .val (.ref a_TRUE)]) rfl k) ?_
      show own_G p e below _ T31 (mkF m 35 #[.val (.int i0), .val (.int i1), .val (.int (1 : Int32)), .val (.int (2 : Int32)), .val (.ref a_UNDEFINED), .val (.ref a_TRUE), .val (.ref a_TRUE)] [])
      refine own_go (fun t k => XS.aload X31.here hx rfl (hb hby at_35) rfl rfl k) ?_
      show own_G p e below _ T31 (mkF m 37 #[.val (.int i0), .val (.int i1), .val (.int (1 : Int32)), .val (.int (2 : Int32)), .val (.ref a_UNDEFINED), .val (.ref a_TRUE), .val (.ref a_TRUE)] [(.ref a_TRUE)])
      refine own_go (fun t k => XS.iloadN X31.here hx rfl (hb hby at_37) rfl k) ?_
      show own_G p e below _ T31 (mkF m 38 #[.val (.int i0), .val (.int i1), .val (.int (1 : Int32)), .val (.int (2 : Int32)), .val (.ref a_UNDEFINED), .val (.ref a_TRUE), .val (.ref a_TRUE)] [(.int (1 : Int32)), (.ref a_TRUE)])
      refine own_go (fun t k => XS.iloadN X31.here hx rfl (hb hby at_38) rfl k) ?_
      show own_G p e below _ T31 (mkF m 39 #[.val (.int i0), .val (.int i1), .val (.int (1 : Int32)), .val (.int (2 : Int32)), .val (.ref a_UNDEFINED), .val (.ref a_TRUE), .val (.ref a_TRUE)] [(.int (2 : Int32)), (.int (1 : Int32)), (.ref a_TRUE)])
      obtain ⟨T32, L32, v32, X32, ⟨rfl, rfl, q32⟩, st32⟩ := own_callS X31 hx hZ (y := (⟨"java/lang/Math", "max", "(II)I"⟩ : MethodName)) hown (hw _ (List.mem_of_getElem? (i := 18) rfl)) (hw _ (List.mem_of_getElem? (i := 19) rfl)) (hw _ (List.mem_of_getElem? (i := 20) rfl)) (hw _ (List.mem_of_getElem? (i := 21) rfl)) (by decide) (c_mm l Z a0 hw (1 : Int32) (2 : Int32) h0  ) q31 (argsL := [(.int (1 : Int32)), (.int (2 : Int32))]) (rest := [(.ref a_TRUE)]) (g := (mkF m 39 #[.val (.int i0), .val (.int i1), .val (.int (1 : Int32)), .val (.int (2 : Int32)), .val (.ref a_UNDEFINED), .val (.ref a_TRUE), .val (.ref a_TRUE)] [(.int (2 : Int32)), (.int (1 : Int32)), (.ref a_TRUE)])) rfl (by rw [hml]; rfl) (ps := [.int, .int]) (r := (some .int)) (by decide +kernel) rfl rfl (W := 1) (by show 2 * 0 + _ ≤ _; exact Nat.le_of_eq rfl) (hb hby at_39) (by decide) (by decide) (by decide) (by decide)
      have N32 := Fr.app N31 (Fr.nil n0)
      refine own_go st32 ?_
      show own_G p e below _ T32 (mkF m 42 #[.val (.int i0), .val (.int i1), .val (.int (1 : Int32)), .val (.int (2 : Int32)), .val (.ref a_UNDEFINED), .val (.ref a_TRUE), .val (.ref a_TRUE)] [(.int (own_mm (1 : Int32) (2 : Int32))), (.ref a_TRUE)])
      have r32 : (own_mm (1 : Int32) (2 : Int32)) = (2 : Int32) := by unfold own_mm; rw [if_pos (show ((1 : Int32) < (2 : Int32)) by decide)]
      rw [r32]
      show own_G p e below _ T32 (mkF m 42 #[.val (.int i0), .val (.int i1), .val (.int (1 : Int32)), .val (.int (2 : Int32)), .val (.ref a_UNDEFINED), .val (.ref a_TRUE), .val (.ref a_TRUE)] [(.int (2 : Int32)), (.ref a_TRUE)])
      obtain ⟨T33, L33, v33, X33, ⟨rfl, rfl, q33⟩, st33⟩ := own_callS X32 hx hZ (y := (⟨"com/example/sownd/sownd/model/TruthValueOrPinLaw", "pick", "(I)Lcom/example/sownd/sownd/model/TruthValue;"⟩ : MethodName)) hown (hw _ (List.mem_of_getElem? (i := 1) rfl)) (hw _ (List.mem_of_getElem? (i := 2) rfl)) (hw _ (List.mem_of_getElem? (i := 3) rfl)) (hw _ (List.mem_of_getElem? (i := 4) rfl)) (by decide) (c_pick l Z a0 hw a_FALSE a_TRUE a_UNDEFINED (2 : Int32) h0 B ) q32 (argsL := [(.int (2 : Int32))]) (rest := [(.ref a_TRUE)]) (g := (mkF m 42 #[.val (.int i0), .val (.int i1), .val (.int (1 : Int32)), .val (.int (2 : Int32)), .val (.ref a_UNDEFINED), .val (.ref a_TRUE), .val (.ref a_TRUE)] [(.int (2 : Int32)), (.ref a_TRUE)])) rfl (by rw [hml]; rfl) (ps := [.int]) (r := (some (.object "com/example/sownd/sownd/model/TruthValue"))) (by decide +kernel) rfl rfl (W := 1) (by show 2 * 0 + _ ≤ _; exact Nat.le_of_eq rfl) (hb hby at_42) (by decide) (by decide) (by decide) (by decide)
      have N33 := Fr.app N32 (Fr.nil n0)
      refine own_go st33 ?_
      show own_G p e below _ T33 (mkF m 45 #[.val (.int i0), .val (.int i1), .val (.int (1 : Int32)), .val (.int (2 : Int32)), .val (.ref a_UNDEFINED), .val (.ref a_TRUE), .val (.ref a_TRUE)] [(.ref (own_pick a_FALSE a_TRUE a_UNDEFINED (2 : Int32))), (.ref a_TRUE)])
      have r33 : (own_pick a_FALSE a_TRUE a_UNDEFINED (2 : Int32)) = a_TRUE := by unfold own_pick; rw [if_neg (show ¬ ((2 : Int32) = (0 : Int32)) by decide), if_neg (show ¬ ((2 : Int32) = (1 : Int32)) by decide)]
      rw [r33]
      show own_G p e below _ T33 (mkF m 45 #[.val (.int i0), .val (.int i1), .val (.int (1 : Int32)), .val (.int (2 : Int32)), .val (.ref a_UNDEFINED), .val (.ref a_TRUE), .val (.ref a_TRUE)] [(.ref a_TRUE), (.ref a_TRUE)])
      refine own_go (fun t k => Jvm.Free.XT.acmpNo X33.here hx rfl (hb hby at_45) rfl rfl rfl (own_acnF rfl) k) ?_
      show own_G p e below _ T33 (mkF m 48 #[.val (.int i0), .val (.int i1), .val (.int (1 : Int32)), .val (.int (2 : Int32)), .val (.ref a_UNDEFINED), .val (.ref a_TRUE), .val (.ref a_TRUE)] [])
      refine own_go (fun t k => XS.iconst X33.here hx rfl (hb hby at_48) k) ?_
      show own_G p e below _ T33 (mkF m 49 #[.val (.int i0), .val (.int i1), .val (.int (1 : Int32)), .val (.int (2 : Int32)), .val (.ref a_UNDEFINED), .val (.ref a_TRUE), .val (.ref a_TRUE)] [(.int (1 : Int32))])
      refine own_go (fun t k => XS.goto X33.here hx rfl (pc0 := 49) (pc' := 53) rfl (hb hby at_49) (by decide) (by decide) k) ?_
      show own_G p e below _ T33 (mkF m 53 #[.val (.int i0), .val (.int i1), .val (.int (1 : Int32)), .val (.int (2 : Int32)), .val (.ref a_UNDEFINED), .val (.ref a_TRUE), .val (.ref a_TRUE)] [(.int (1 : Int32))])
      exact own_retN X33 hx hlk hret (by simp) (hb hby at_53) (by decide) (by decide) ⟨rfl, N33⟩
  · rw [hk1]
    show own_G p e below _ T0 (mkF m 6 #[.val (.int i0), .val (.int i1), .unset, .unset, .unset, .unset, .unset] [(.int (2 : Int32))])
    refine own_go (fun t k => XS.istoreN X0.here hx rfl (hb hby at_6) rfl (l' := #[.val (.int i0), .val (.int i1), .val (.int (2 : Int32)), .unset, .unset, .unset, .unset]) rfl k) ?_
    show own_G p e below _ T0 (mkF m 7 #[.val (.int i0), .val (.int i1), .val (.int (2 : Int32)), .unset, .unset, .unset, .unset] [])
    refine own_go (fun t k => XS.iloadN X0.here hx rfl (hb hby at_7) rfl k) ?_
    show own_G p e below _ T0 (mkF m 8 #[.val (.int i0), .val (.int i1), .val (.int (2 : Int32)), .unset, .unset, .unset, .unset] [(.int i1)])
    refine own_go (X0.ldcInt hx hown (mvT hZ (hw _ (List.mem_of_getElem? (i := 0) rfl))) (g := (mkF m 8 #[.val (.int i0), .val (.int i1), .val (.int (2 : Int32)), .unset, .unset, .unset, .unset] [(.int i1)])) rfl (hb hby at_8)) ?_
    show own_G p e below _ T0 (mkF m 10 #[.val (.int i0), .val (.int i1), .val (.int (2 : Int32)), .unset, .unset, .unset, .unset] [(.int (2147483647 : Int32)), (.int i1)])
    refine own_go (fun t k => XS.iand X0.here hx rfl (hb hby at_10) rfl k) ?_
    show own_G p e below _ T0 (mkF m 11 #[.val (.int i0), .val (.int i1), .val (.int (2 : Int32)), .unset, .unset, .unset, .unset] [(.int (i1 &&& (2147483647 : Int32)))])
    refine own_go (fun t k => XS.iconst X0.here hx rfl (hb hby at_11) k) ?_
    show own_G p e below _ T0 (mkF m 12 #[.val (.int i0), .val (.int i1), .val (.int (2 : Int32)), .unset, .unset, .unset, .unset] [(.int (3 : Int32)), (.int (i1 &&& (2147483647 : Int32)))])
    refine own_go (fun t k => iremM X0 hx rfl (hb hby at_12) rfl (by decide) k) ?_
    show own_G p e below _ T0 (mkF m 13 #[.val (.int i0), .val (.int i1), .val (.int (2 : Int32)), .unset, .unset, .unset, .unset] [(.int ((i1 &&& (2147483647 : Int32)) % (3 : Int32)))])
    rcases hf with hk34 | hk34 | hk34
    · rw [hk34]
      show own_G p e below _ T0 (mkF m 13 #[.val (.int i0), .val (.int i1), .val (.int (2 : Int32)), .unset, .unset, .unset, .unset] [(.int (0 : Int32))])
      refine own_go (fun t k => XS.istoreN X0.here hx rfl (hb hby at_13) rfl (l' := #[.val (.int i0), .val (.int i1), .val (.int (2 : Int32)), .val (.int (0 : Int32)), .unset, .unset, .unset]) rfl k) ?_
      show own_G p e below _ T0 (mkF m 14 #[.val (.int i0), .val (.int i1), .val (.int (2 : Int32)), .val (.int (0 : Int32)), .unset, .unset, .unset] [])
      refine own_go (fun t k => XS.iloadN X0.here hx rfl (hb hby at_14) rfl k) ?_
      show own_G p e below _ T0 (mkF m 15 #[.val (.int i0), .val (.int i1), .val (.int (2 : Int32)), .val (.int (0 : Int32)), .unset, .unset, .unset] [(.int (2 : Int32))])
      obtain ⟨T35, L35, v35, X35, ⟨rfl, rfl, q35⟩, st35⟩ := own_callS X0 hx hZ (y := (⟨"com/example/sownd/sownd/model/TruthValueOrPinLaw", "pick", "(I)Lcom/example/sownd/sownd/model/TruthValue;"⟩ : MethodName)) hown (hw _ (List.mem_of_getElem? (i := 1) rfl)) (hw _ (List.mem_of_getElem? (i := 2) rfl)) (hw _ (List.mem_of_getElem? (i := 3) rfl)) (hw _ (List.mem_of_getElem? (i := 4) rfl)) (by decide) (c_pick l Z a0 hw a_FALSE a_TRUE a_UNDEFINED (2 : Int32) h0 B ) e0 (argsL := [(.int (2 : Int32))]) (rest := []) (g := (mkF m 15 #[.val (.int i0), .val (.int i1), .val (.int (2 : Int32)), .val (.int (0 : Int32)), .unset, .unset, .unset] [(.int (2 : Int32))])) rfl (by rw [hml]; rfl) (ps := [.int]) (r := (some (.object "com/example/sownd/sownd/model/TruthValue"))) (by decide +kernel) rfl rfl (W := 0) (by show 2 * 0 + _ ≤ _; exact Nat.le_of_eq rfl) (hb hby at_15) (by decide) (by decide) (by decide) (by decide)
      have N35 := Fr.app N0 (Fr.nil n0)
      refine own_go st35 ?_
      show own_G p e below _ T35 (mkF m 18 #[.val (.int i0), .val (.int i1), .val (.int (2 : Int32)), .val (.int (0 : Int32)), .unset, .unset, .unset] [(.ref (own_pick a_FALSE a_TRUE a_UNDEFINED (2 : Int32)))])
      have r35 : (own_pick a_FALSE a_TRUE a_UNDEFINED (2 : Int32)) = a_TRUE := by unfold own_pick; rw [if_neg (show ¬ ((2 : Int32) = (0 : Int32)) by decide), if_neg (show ¬ ((2 : Int32) = (1 : Int32)) by decide)]
      rw [r35]
      show own_G p e below _ T35 (mkF m 18 #[.val (.int i0), .val (.int i1), .val (.int (2 : Int32)), .val (.int (0 : Int32)), .unset, .unset, .unset] [(.ref a_TRUE)])
      refine own_go (fun t k => XS.astore X35.here hx rfl (hb hby at_18) rfl rfl (l' := #[.val (.int i0), .val (.int i1), .val (.int (2 : Int32)), .val (.int (0 : Int32)), .val (.ref a_TRUE), .unset, .unset]) rfl k) ?_
      show own_G p e below _ T35 (mkF m 20 #[.val (.int i0), .val (.int i1), .val (.int (2 : Int32)), .val (.int (0 : Int32)), .val (.ref a_TRUE), .unset, .unset] [])
      refine own_go (fun t k => XS.iloadN X35.here hx rfl (hb hby at_20) rfl k) ?_
      show own_G p e below _ T35 (mkF m 21 #[.val (.int i0), .val (.int i1), .val (.int (2 : Int32)), .val (.int (0 : Int32)), .val (.ref a_TRUE), .unset, .unset] [(.int (0 : Int32))])
      obtain ⟨T36, L36, v36, X36, ⟨rfl, rfl, q36⟩, st36⟩ := own_callS X35 hx hZ (y := (⟨"com/example/sownd/sownd/model/TruthValueOrPinLaw", "pick", "(I)Lcom/example/sownd/sownd/model/TruthValue;"⟩ : MethodName)) hown (hw _ (List.mem_of_getElem? (i := 1) rfl)) (hw _ (List.mem_of_getElem? (i := 2) rfl)) (hw _ (List.mem_of_getElem? (i := 3) rfl)) (hw _ (List.mem_of_getElem? (i := 4) rfl)) (by decide) (c_pick l Z a0 hw a_FALSE a_TRUE a_UNDEFINED (0 : Int32) h0 B ) q35 (argsL := [(.int (0 : Int32))]) (rest := []) (g := (mkF m 21 #[.val (.int i0), .val (.int i1), .val (.int (2 : Int32)), .val (.int (0 : Int32)), .val (.ref a_TRUE), .unset, .unset] [(.int (0 : Int32))])) rfl (by rw [hml]; rfl) (ps := [.int]) (r := (some (.object "com/example/sownd/sownd/model/TruthValue"))) (by decide +kernel) rfl rfl (W := 0) (by show 2 * 0 + _ ≤ _; exact Nat.le_of_eq rfl) (hb hby at_21) (by decide) (by decide) (by decide) (by decide)
      have N36 := Fr.app N35 (Fr.nil n0)
      refine own_go st36 ?_
      show own_G p e below _ T36 (mkF m 24 #[.val (.int i0), .val (.int i1), .val (.int (2 : Int32)), .val (.int (0 : Int32)), .val (.ref a_TRUE), .unset, .unset] [(.ref (own_pick a_FALSE a_TRUE a_UNDEFINED (0 : Int32)))])
      have r36 : (own_pick a_FALSE a_TRUE a_UNDEFINED (0 : Int32)) = a_FALSE := by unfold own_pick; rw [if_pos (show ((0 : Int32) = (0 : Int32)) by decide)]
      rw [r36]
      show own_G p e below _ T36 (mkF m 24 #[.val (.int i0), .val (.int i1), .val (.int (2 : Int32)), .val (.int (0 : Int32)), .val (.ref a_TRUE), .unset, .unset] [(.ref a_FALSE)])
      refine own_go (fun t k => XS.astore X36.here hx rfl (hb hby at_24) rfl rfl (l' := #[.val (.int i0), .val (.int i1), .val (.int (2 : Int32)), .val (.int (0 : Int32)), .val (.ref a_TRUE), .val (.ref a_FALSE), .unset]) rfl k) ?_
      show own_G p e below _ T36 (mkF m 26 #[.val (.int i0), .val (.int i1), .val (.int (2 : Int32)), .val (.int (0 : Int32)), .val (.ref a_TRUE), .val (.ref a_FALSE), .unset] [])
      refine own_go (fun t k => XS.aload X36.here hx rfl (hb hby at_26) rfl rfl k) ?_
      show own_G p e below _ T36 (mkF m 28 #[.val (.int i0), .val (.int i1), .val (.int (2 : Int32)), .val (.int (0 : Int32)), .val (.ref a_TRUE), .val (.ref a_FALSE), .unset] [(.ref a_TRUE)])
      refine own_go (fun t k => XS.aload X36.here hx rfl (hb hby at_28) rfl rfl k) ?_
      show own_G p e below _ T36 (mkF m 30 #[.val (.int i0), .val (.int i1), .val (.int (2 : Int32)), .val (.int (0 : Int32)), .val (.ref a_TRUE), .val (.ref a_FALSE), .unset] [(.ref a_FALSE), (.ref a_TRUE)])
      obtain ⟨T37, L37, v37, X37, ⟨rfl, rfl, q37⟩, st37⟩ := own_callV X36 hx hZ (y := (⟨"com/example/sownd/sownd/model/TruthValue", "or", "(Lcom/example/sownd/sownd/model/TruthValue;)Lcom/example/sownd/sownd/model/TruthValue;"⟩ : MethodName)) (z := (⟨"com/example/sownd/sownd/model/TruthValue", "or", "(Lcom/example/sownd/sownd/model/TruthValue;)Lcom/example/sownd/sownd/model/TruthValue;"⟩ : MethodName)) hown (hw _ (List.mem_of_getElem? (i := 8) rfl)) (hw _ (List.mem_of_getElem? (i := 9) rfl)) (hw _ (List.mem_of_getElem? (i := 11) rfl)) (hw _ (List.mem_of_getElem? (i := 11) rfl)) (hw _ (List.mem_of_getElem? (i := 10) rfl)) (hw _ (List.mem_of_getElem? (i := 12) rfl)) (hw _ (List.mem_of_getElem? (i := 6) rfl)) (notFace_of_selects (args := #[]) (mvT hZ (hw _ (List.mem_of_getElem? (i := 11) rfl)))) (by decide) (c_op l Z a0 hw a_FALSE a_TRUE a_UNDEFINED a_TRUE a_FALSE h0 B ) q36 E_TRUE (argsL := [(.ref a_FALSE)]) (rest := []) (g := (mkF m 30 #[.val (.int i0), .val (.int i1), .val (.int (2 : Int32)), .val (.int (0 : Int32)), .val (.ref a_TRUE), .val (.ref a_FALSE), .unset] [(.ref a_FALSE), (.ref a_TRUE)])) rfl (by rw [hml]; rfl) (ps := [(.object "com/example/sownd/sownd/model/TruthValue")]) (r := (some (.object "com/example/sownd/sownd/model/TruthValue"))) (by decide +kernel) rfl rfl (W := 0) (by show 2 * 0 + _ ≤ _; exact Nat.le_of_eq rfl) (hb hby at_30) (by decide) (by decide) (by decide) (by decide)
      have N37 := Fr.app N36 (Fr.nil n0)
      refine own_go st37 ?_
      show own_G p e below _ T37 (mkF m 33 #[.val (.int i0), .val (.int i1), .val (.int (2 : Int32)), .val (.int (0 : Int32)), .val (.ref a_TRUE), .val (.ref a_FALSE), .unset] [(.ref (own_op a_FALSE a_TRUE a_UNDEFINED a_TRUE a_FALSE))])
      have r37 : (own_op a_FALSE a_TRUE a_UNDEFINED a_TRUE a_FALSE) = a_TRUE := by unfold own_op; rw [if_pos (rfl : a_TRUE = a_TRUE)]
      rw [r37]
      show own_G p e below _ T37 (mkF m 33 #[.val (.int i0), .val (.int i1), .val (.int (2 : Int32)), .val (.int (0 : Int32)), .val (.ref a_TRUE), .val (.ref a_FALSE), .unset] [(.ref a_TRUE)])
      refine own_go (fun t k => XS.astore X37.here hx rfl (hb hby at_33) rfl rfl (l' := #[.val (.int i0), .val (.int i1), .val (.int (2 : Int32)), .val (.int (0 : Int32)), .val (.ref a_TRUE), .val (.ref a_FALSE), .val (.ref a_TRUE)]) rfl k) ?_
      show own_G p e below _ T37 (mkF m 35 #[.val (.int i0), .val (.int i1), .val (.int (2 : Int32)), .val (.int (0 : Int32)), .val (.ref a_TRUE), .val (.ref a_FALSE), .val (.ref a_TRUE)] [])
      refine own_go (fun t k => XS.aload X37.here hx rfl (hb hby at_35) rfl rfl k) ?_
      show own_G p e below _ T37 (mkF m 37 #[.val (.int i0), .val (.int i1), .val (.int (2 : Int32)), .val (.int (0 : Int32)), .val (.ref a_TRUE), .val (.ref a_FALSE), .val (.ref a_TRUE)] [(.ref a_TRUE)])
      refine own_go (fun t k => XS.iloadN X37.here hx rfl (hb hby at_37) rfl k) ?_
      show own_G p e below _ T37 (mkF m 38 #[.val (.int i0), .val (.int i1), .val (.int (2 : Int32)), .val (.int (0 : Int32)), .val (.ref a_TRUE), .val (.ref a_FALSE), .val (.ref a_TRUE)] [(.int (2 : Int32)), (.ref a_TRUE)])
      refine own_go (fun t k => XS.iloadN X37.here hx rfl (hb hby at_38) rfl k) ?_
      show own_G p e below _ T37 (mkF m 39 #[.val (.int i0), .val (.int i1), .val (.int (2 : Int32)), .val (.int (0 : Int32)), .val (.ref a_TRUE), .val (.ref a_FALSE), .val (.ref a_TRUE)] [(.int (0 : Int32)), (.int (2 : Int32)), (.ref a_TRUE)])
      obtain ⟨T38, L38, v38, X38, ⟨rfl, rfl, q38⟩, st38⟩ := own_callS X37 hx hZ (y := (⟨"java/lang/Math", "max", "(II)I"⟩ : MethodName)) hown (hw _ (List.mem_of_getElem? (i := 18) rfl)) (hw _ (List.mem_of_getElem? (i := 19) rfl)) (hw _ (List.mem_of_getElem? (i := 20) rfl)) (hw _ (List.mem_of_getElem? (i := 21) rfl)) (by decide) (c_mm l Z a0 hw (2 : Int32) (0 : Int32) h0  ) q37 (argsL := [(.int (2 : Int32)), (.int (0 : Int32))]) (rest := [(.ref a_TRUE)]) (g := (mkF m 39 #[.val (.int i0), .val (.int i1), .val (.int (2 : Int32)), .val (.int (0 : Int32)), .val (.ref a_TRUE), .val (.ref a_FALSE), .val (.ref a_TRUE)] [(.int (0 : Int32)), (.int (2 : Int32)), (.ref a_TRUE)])) rfl (by rw [hml]; rfl) (ps := [.int, .int]) (r := (some .int)) (by decide +kernel) rfl rfl (W := 1) (by show 2 * 0 + _ ≤ _; exact Nat.le_of_eq rfl) (hb hby at_39) (by decide) (by decide) (by decide) (by decide)
      have N38 := Fr.app N37 (Fr.nil n0)
      refine own_go st38 ?_
      show own_G p e below _ T38 (mkF m 42 #[.val (.int i0), .val (.int i1), .val (.int (2 : Int32)), .val (.int (0 : Int32)), .val (.ref a_TRUE), .val (.ref a_FALSE), .val (.ref a_TRUE)] [(.int (own_mm (2 : Int32) (0 : Int32))), (.ref a_TRUE)])
      have r38 : (own_mm (2 : Int32) (0 : Int32)) = (2 : Int32) := by unfold own_mm; rw [if_neg (show ¬ ((2 : Int32) < (0 : Int32)) by decide)]
      rw [r38]
      show own_G p e below _ T38 (mkF m 42 #[.val (.int i0), .val (.int i1), .val (.int (2 : Int32)), .val (.int (0 : Int32)), .val (.ref a_TRUE), .val (.ref a_FALSE), .val (.ref a_TRUE)] [(.int (2 : Int32)), (.ref a_TRUE)])
      obtain ⟨T39, L39, v39, X39, ⟨rfl, rfl, q39⟩, st39⟩ := own_callS X38 hx hZ (y := (⟨"com/example/sownd/sownd/model/TruthValueOrPinLaw", "pick", "(I)Lcom/example/sownd/sownd/model/TruthValue;"⟩ : MethodName)) hown (hw _ (List.mem_of_getElem? (i := 1) rfl)) (hw _ (List.mem_of_getElem? (i := 2) rfl)) (hw _ (List.mem_of_getElem? (i := 3) rfl)) (hw _ (List.mem_of_getElem? (i := 4) rfl)) (by decide) (c_pick l Z a0 hw a_FALSE a_TRUE a_UNDEFINED (2 : Int32) h0 B ) q38 (argsL := [(.int (2 : Int32))]) (rest := [(.ref a_TRUE)]) (g := (mkF m 42 #[.val (.int i0), .val (.int i1), .val (.int (2 : Int32)), .val (.int (0 : Int32)), .val (.ref a_TRUE), .val (.ref a_FALSE), .val (.ref a_TRUE)] [(.int (2 : Int32)), (.ref a_TRUE)])) rfl (by rw [hml]; rfl) (ps := [.int]) (r := (some (.object "com/example/sownd/sownd/model/TruthValue"))) (by decide +kernel) rfl rfl (W := 1) (by show 2 * 0 + _ ≤ _; exact Nat.le_of_eq rfl) (hb hby at_42) (by decide) (by decide) (by decide) (by decide)
      have N39 := Fr.app N38 (Fr.nil n0)
      refine own_go st39 ?_
      show own_G p e below _ T39 (mkF m 45 #[.val (.int i0), .val (.int i1), .val (.int (2 : Int32)), .val (.int (0 : Int32)), .val (.ref a_TRUE), .val (.ref a_FALSE), .val (.ref a_TRUE)] [(.ref (own_pick a_FALSE a_TRUE a_UNDEFINED (2 : Int32))), (.ref a_TRUE)])
      have r39 : (own_pick a_FALSE a_TRUE a_UNDEFINED (2 : Int32)) = a_TRUE := by unfold own_pick; rw [if_neg (show ¬ ((2 : Int32) = (0 : Int32)) by decide), if_neg (show ¬ ((2 : Int32) = (1 : Int32)) by decide)]
      rw [r39]
      show own_G p e below _ T39 (mkF m 45 #[.val (.int i0), .val (.int i1), .val (.int (2 : Int32)), .val (.int (0 : Int32)), .val (.ref a_TRUE), .val (.ref a_FALSE), .val (.ref a_TRUE)] [(.ref a_TRUE), (.ref a_TRUE)])
      refine own_go (fun t k => Jvm.Free.XT.acmpNo X39.here hx rfl (hb hby at_45) rfl rfl rfl (own_acnF rfl) k) ?_
      show own_G p e below _ T39 (mkF m 48 #[.val (.int i0), .val (.int i1), .val (.int (2 : Int32)), .val (.int (0 : Int32)), .val (.ref a_TRUE), .val (.ref a_FALSE), .val (.ref a_TRUE)] [])
      refine own_go (fun t k => XS.iconst X39.here hx rfl (hb hby at_48) k) ?_
      show own_G p e below _ T39 (mkF m 49 #[.val (.int i0), .val (.int i1), .val (.int (2 : Int32)), .val (.int (0 : Int32)), .val (.ref a_TRUE), .val (.ref a_FALSE), .val (.ref a_TRUE)] [(.int (1 : Int32))])
      refine own_go (fun t k => XS.goto X39.here hx rfl (pc0 := 49) (pc' := 53) rfl (hb hby at_49) (by decide) (by decide) k) ?_
      show own_G p e below _ T39 (mkF m 53 #[.val (.int i0), .val (.int i1), .val (.int (2 : Int32)), .val (.int (0 : Int32)), .val (.ref a_TRUE), .val (.ref a_FALSE), .val (.ref a_TRUE)] [(.int (1 : Int32))])
      exact own_retN X39 hx hlk hret (by simp) (hb hby at_53) (by decide) (by decide) ⟨rfl, N39⟩
    · rw [hk34]
      show own_G p e below _ T0 (mkF m 13 #[.val (.int i0), .val (.int i1), .val (.int (2 : Int32)), .unset, .unset, .unset, .unset] [(.int (1 : Int32))])
      refine own_go (fun t k => XS.istoreN X0.here hx rfl (hb hby at_13) rfl (l' := #[.val (.int i0), .val (.int i1), .val (.int (2 : Int32)), .val (.int (1 : Int32)), .unset, .unset, .unset]) rfl k) ?_
      show own_G p e below _ T0 (mkF m 14 #[.val (.int i0), .val (.int i1), .val (.int (2 : Int32)), .val (.int (1 : Int32)), .unset, .unset, .unset] [])
      refine own_go (fun t k => XS.iloadN X0.here hx rfl (hb hby at_14) rfl k) ?_
      show own_G p e below _ T0 (mkF m 15 #[.val (.int i0), .val (.int i1), .val (.int (2 : Int32)), .val (.int (1 : Int32)), .unset, .unset, .unset] [(.int (2 : Int32))])
      obtain ⟨T40, L40, v40, X40, ⟨rfl, rfl, q40⟩, st40⟩ := own_callS X0 hx hZ (y := (⟨"com/example/sownd/sownd/model/TruthValueOrPinLaw", "pick", "(I)Lcom/example/sownd/sownd/model/TruthValue;"⟩ : MethodName)) hown (hw _ (List.mem_of_getElem? (i := 1) rfl)) (hw _ (List.mem_of_getElem? (i := 2) rfl)) (hw _ (List.mem_of_getElem? (i := 3) rfl)) (hw _ (List.mem_of_getElem? (i := 4) rfl)) (by decide) (c_pick l Z a0 hw a_FALSE a_TRUE a_UNDEFINED (2 : Int32) h0 B ) e0 (argsL := [(.int (2 : Int32))]) (rest := []) (g := (mkF m 15 #[.val (.int i0), .val (.int i1), .val (.int (2 : Int32)), .val (.int (1 : Int32)), .unset, .unset, .unset] [(.int (2 : Int32))])) rfl (by rw [hml]; rfl) (ps := [.int]) (r := (some (.object "com/example/sownd/sownd/model/TruthValue"))) (by decide +kernel) rfl rfl (W := 0) (by show 2 * 0 + _ ≤ _; exact Nat.le_of_eq rfl) (hb hby at_15) (by decide) (by decide) (by decide) (by decide)
      have N40 := Fr.app N0 (Fr.nil n0)
      refine own_go st40 ?_
      show own_G p e below _ T40 (mkF m 18 #[.val (.int i0), .val (.int i1), .val (.int (2 : Int32)), .val (.int (1 : Int32)), .unset, .unset, .unset] [(.ref (own_pick a_FALSE a_TRUE a_UNDEFINED (2 : Int32)))])
      have r40 : (own_pick a_FALSE a_TRUE a_UNDEFINED (2 : Int32)) = a_TRUE := by unfold own_pick; rw [if_neg (show ¬ ((2 : Int32) = (0 : Int32)) by decide), if_neg (show ¬ ((2 : Int32) = (1 : Int32)) by decide)]
      rw [r40]
      show own_G p e below _ T40 (mkF m 18 #[.val (.int i0), .val (.int i1), .val (.int (2 : Int32)), .val (.int (1 : Int32)), .unset, .unset, .unset] [(.ref a_TRUE)])
      refine own_go (fun t k => XS.astore X40.here hx rfl (hb hby at_18) rfl rfl (l' := #[.val (.int i0), .val (.int i1), .val (.int (2 : Int32)), .val (.int (1 : Int32)), .val (.ref a_TRUE), .unset, .unset]) rfl k) ?_
      show own_G p e below _ T40 (mkF m 20 #[.val (.int i0), .val (.int i1), .val (.int (2 : Int32)), .val (.int (1 : Int32)), .val (.ref a_TRUE), .unset, .unset] [])
      refine own_go (fun t k => XS.iloadN X40.here hx rfl (hb hby at_20) rfl k) ?_
      show own_G p e below _ T40 (mkF m 21 #[.val (.int i0), .val (.int i1), .val (.int (2 : Int32)), .val (.int (1 : Int32)), .val (.ref a_TRUE), .unset, .unset] [(.int (1 : Int32))])
      obtain ⟨T41, L41, v41, X41, ⟨rfl, rfl, q41⟩, st41⟩ := own_callS X40 hx hZ (y := (⟨"com/example/sownd/sownd/model/TruthValueOrPinLaw", "pick", "(I)Lcom/example/sownd/sownd/model/TruthValue;"⟩ : MethodName)) hown (hw _ (List.mem_of_getElem? (i := 1) rfl)) (hw _ (List.mem_of_getElem? (i := 2) rfl)) (hw _ (List.mem_of_getElem? (i := 3) rfl)) (hw _ (List.mem_of_getElem? (i := 4) rfl)) (by decide) (c_pick l Z a0 hw a_FALSE a_TRUE a_UNDEFINED (1 : Int32) h0 B ) q40 (argsL := [(.int (1 : Int32))]) (rest := []) (g := (mkF m 21 #[.val (.int i0), .val (.int i1), .val (.int (2 : Int32)), .val (.int (1 : Int32)), .val (.ref a_TRUE), .unset, .unset] [(.int (1 : Int32))])) rfl (by rw [hml]; rfl) (ps := [.int]) (r := (some (.object "com/example/sownd/sownd/model/TruthValue"))) (by decide +kernel) rfl rfl (W := 0) (by show 2 * 0 + _ ≤ _; exact Nat.le_of_eq rfl) (hb hby at_21) (by decide) (by decide) (by decide) (by decide)
      have N41 := Fr.app N40 (Fr.nil n0)
      refine own_go st41 ?_
      show own_G p e below _ T41 (mkF m 24 #[.val (.int i0), .val (.int i1), .val (.int (2 : Int32)), .val (.int (1 : Int32)), .val (.ref a_TRUE), .unset, .unset] [(.ref (own_pick a_FALSE a_TRUE a_UNDEFINED (1 : Int32)))])
      have r41 : (own_pick a_FALSE a_TRUE a_UNDEFINED (1 : Int32)) = a_UNDEFINED := by unfold own_pick; rw [if_neg (show ¬ ((1 : Int32) = (0 : Int32)) by decide), if_pos (show ((1 : Int32) = (1 : Int32)) by decide)]
      rw [r41]
      show own_G p e below _ T41 (mkF m 24 #[.val (.int i0), .val (.int i1), .val (.int (2 : Int32)), .val (.int (1 : Int32)), .val (.ref a_TRUE), .unset, .unset] [(.ref a_UNDEFINED)])
      refine own_go (fun t k => XS.astore X41.here hx rfl (hb hby at_24) rfl rfl (l' := #[.val (.int i0), .val (.int i1), .val (.int (2 : Int32)), .val (.int (1 : Int32)), .val (.ref a_TRUE), .val (.ref a_UNDEFINED), .unset]) rfl k) ?_
      show own_G p e below _ T41 (mkF m 26 #[.val (.int i0), .val (.int i1), .val (.int (2 : Int32)), .val (.int (1 : Int32)), .val (.ref a_TRUE), .val (.ref a_UNDEFINED), .unset] [])
      refine own_go (fun t k => XS.aload X41.here hx rfl (hb hby at_26) rfl rfl k) ?_
      show own_G p e below _ T41 (mkF m 28 #[.val (.int i0), .val (.int i1), .val (.int (2 : Int32)), .val (.int (1 : Int32)), .val (.ref a_TRUE), .val (.ref a_UNDEFINED), .unset] [(.ref a_TRUE)])
      refine own_go (fun t k => XS.aload X41.here hx rfl (hb hby at_28) rfl rfl k) ?_
      show own_G p e below _ T41 (mkF m 30 #[.val (.int i0), .val (.int i1), .val (.int (2 : Int32)), .val (.int (1 : Int32)), .val (.ref a_TRUE), .val (.ref a_UNDEFINED), .unset] [(.ref a_UNDEFINED), (.ref a_TRUE)])
      obtain ⟨T42, L42, v42, X42, ⟨rfl, rfl, q42⟩, st42⟩ := own_callV X41 hx hZ (y := (⟨"com/example/sownd/sownd/model/TruthValue", "or", "(Lcom/example/sownd/sownd/model/TruthValue;)Lcom/example/sownd/sownd/model/TruthValue;"⟩ : MethodName)) (z := (⟨"com/example/sownd/sownd/model/TruthValue", "or", "(Lcom/example/sownd/sownd/model/TruthValue;)Lcom/example/sownd/sownd/model/TruthValue;"⟩ : MethodName)) hown (hw _ (List.mem_of_getElem? (i := 8) rfl)) (hw _ (List.mem_of_getElem? (i := 9) rfl)) (hw _ (List.mem_of_getElem? (i := 11) rfl)) (hw _ (List.mem_of_getElem? (i := 11) rfl)) (hw _ (List.mem_of_getElem? (i := 10) rfl)) (hw _ (List.mem_of_getElem? (i := 12) rfl)) (hw _ (List.mem_of_getElem? (i := 6) rfl)) (notFace_of_selects (args := #[]) (mvT hZ (hw _ (List.mem_of_getElem? (i := 11) rfl)))) (by decide) (c_op l Z a0 hw a_FALSE a_TRUE a_UNDEFINED a_TRUE a_UNDEFINED h0 B ) q41 E_TRUE (argsL := [(.ref a_UNDEFINED)]) (rest := []) (g := (mkF m 30 #[.val (.int i0), .val (.int i1), .val (.int (2 : Int32)), .val (.int (1 : Int32)), .val (.ref a_TRUE), .val (.ref a_UNDEFINED), .unset] [(.ref a_UNDEFINED), (.ref a_TRUE)])) rfl (by rw [hml]; rfl) (ps := [(.object "com/example/sownd/sownd/model/TruthValue")]) (r := (some (.object "com/example/sownd/sownd/model/TruthValue"))) (by decide +kernel) rfl rfl (W := 0) (by show 2 * 0 + _ ≤ _; exact Nat.le_of_eq rfl) (hb hby at_30) (by decide) (by decide) (by decide) (by decide)
      have N42 := Fr.app N41 (Fr.nil n0)
      refine own_go st42 ?_
      show own_G p e below _ T42 (mkF m 33 #[.val (.int i0), .val (.int i1), .val (.int (2 : Int32)), .val (.int (1 : Int32)), .val (.ref a_TRUE), .val (.ref a_UNDEFINED), .unset] [(.ref (own_op a_FALSE a_TRUE a_UNDEFINED a_TRUE a_UNDEFINED))])
      have r42 : (own_op a_FALSE a_TRUE a_UNDEFINED a_TRUE a_UNDEFINED) = a_TRUE := by unfold own_op; rw [if_pos (rfl : a_TRUE = a_TRUE)]
      rw [r42]
      show own_G p e below _ T42 (mkF m 33 #[.val (.int i0), .val (.int i1), .val (.int (2 : Int32)), .val (.int (1 : Int32)), .val (.ref a_TRUE), .val (.ref a_UNDEFINED), .unset] [(.ref a_TRUE)])
      refine own_go (fun t k => XS.astore X42.here hx rfl (hb hby at_33) rfl rfl (l' := #[.val (.int i0), .val (.int i1), .val (.int (2 : Int32)), .val (.int (1 : Int32)), .val (.ref a_TRUE), .val (.ref a_UNDEFINED), .val (.ref a_TRUE)]) rfl k) ?_
      show own_G p e below _ T42 (mkF m 35 #[.val (.int i0), .val (.int i1), .val (.int (2 : Int32)), .val (.int (1 : Int32)), .val (.ref a_TRUE), .val (.ref a_UNDEFINED), .val (.ref a_TRUE)] [])
      refine own_go (fun t k => XS.aload X42.here hx rfl (hb hby at_35) rfl rfl k) ?_
      show own_G p e below _ T42 (mkF m 37 #[.val (.int i0), .val (.int i1), .val (.int (2 : Int32)), .val (.int (1 : Int32)), .val (.ref a_TRUE), .val (.ref a_UNDEFINED), .val (.ref a_TRUE)] [(.ref a_TRUE)])
      refine own_go (fun t k => XS.iloadN X42.here hx rfl (hb hby at_37) rfl k) ?_
      show own_G p e below _ T42 (mkF m 38 #[.val (.int i0), .val (.int i1), .val (.int (2 : Int32)), .val (.int (1 : Int32)), .val (.ref a_TRUE), .val (.ref a_UNDEFINED), .val (.ref a_TRUE)] [(.int (2 : Int32)), (.ref a_TRUE)])
      refine own_go (fun t k => XS.iloadN X42.here hx rfl (hb hby at_38) rfl k) ?_
      show own_G p e below _ T42 (mkF m 39 #[.val (.int i0), .val (.int i1), .val (.int (2 : Int32)), .val (.int (1 : Int32)), .val (.ref a_TRUE), .val (.ref a_UNDEFINED), .val (.ref a_TRUE)] [(.int (1 : Int32)), (.int (2 : Int32)), (.ref a_TRUE)])
      obtain ⟨T43, L43, v43, X43, ⟨rfl, rfl, q43⟩, st43⟩ := own_callS X42 hx hZ (y := (⟨"java/lang/Math", "max", "(II)I"⟩ : MethodName)) hown (hw _ (List.mem_of_getElem? (i := 18) rfl)) (hw _ (List.mem_of_getElem? (i := 19) rfl)) (hw _ (List.mem_of_getElem? (i := 20) rfl)) (hw _ (List.mem_of_getElem? (i := 21) rfl)) (by decide) (c_mm l Z a0 hw (2 : Int32) (1 : Int32) h0  ) q42 (argsL := [(.int (2 : Int32)), (.int (1 : Int32))]) (rest := [(.ref a_TRUE)]) (g := (mkF m 39 #[.val (.int i0), .val (.int i1), .val (.int (2 : Int32)), .val (.int (1 : Int32)), .val (.ref a_TRUE), .val (.ref a_UNDEFINED), .val (.ref a_TRUE)] [(.int (1 : Int32)), (.int (2 : Int32)), (.ref a_TRUE)])) rfl (by rw [hml]; rfl) (ps := [.int, .int]) (r := (some .int)) (by decide +kernel) rfl rfl (W := 1) (by show 2 * 0 + _ ≤ _; exact Nat.le_of_eq rfl) (hb hby at_39) (by decide) (by decide) (by decide) (by decide)
      have N43 := Fr.app N42 (Fr.nil n0)
      refine own_go st43 ?_
      show own_G p e below _ T43 (mkF m 42 #[.val (.int i0), .val (.int i1), .val (.int (2 : Int32)), .val (.int (1 : Int32)), .val (.ref a_TRUE), .val (.ref a_UNDEFINED), .val (.ref a_TRUE)] [(.int (own_mm (2 : Int32) (1 : Int32))), (.ref a_TRUE)])
      have r43 : (own_mm (2 : Int32) (1 : Int32)) = (2 : Int32) := by unfold own_mm; rw [if_neg (show ¬ ((2 : Int32) < (1 : Int32)) by decide)]
      rw [r43]
      show own_G p e below _ T43 (mkF m 42 #[.val (.int i0), .val (.int i1), .val (.int (2 : Int32)), .val (.int (1 : Int32)), .val (.ref a_TRUE), .val (.ref a_UNDEFINED), .val (.ref a_TRUE)] [(.int (2 : Int32)), (.ref a_TRUE)])
      obtain ⟨T44, L44, v44, X44, ⟨rfl, rfl, q44⟩, st44⟩ := own_callS X43 hx hZ (y := (⟨"com/example/sownd/sownd/model/TruthValueOrPinLaw", "pick", "(I)Lcom/example/sownd/sownd/model/TruthValue;"⟩ : MethodName)) hown (hw _ (List.mem_of_getElem? (i := 1) rfl)) (hw _ (List.mem_of_getElem? (i := 2) rfl)) (hw _ (List.mem_of_getElem? (i := 3) rfl)) (hw _ (List.mem_of_getElem? (i := 4) rfl)) (by decide) (c_pick l Z a0 hw a_FALSE a_TRUE a_UNDEFINED (2 : Int32) h0 B ) q43 (argsL := [(.int (2 : Int32))]) (rest := [(.ref a_TRUE)]) (g := (mkF m 42 #[.val (.int i0), .val (.int i1), .val (.int (2 : Int32)), .val (.int (1 : Int32)), .val (.ref a_TRUE), .val (.ref a_UNDEFINED), .val (.ref a_TRUE)] [(.int (2 : Int32)), (.ref a_TRUE)])) rfl (by rw [hml]; rfl) (ps := [.int]) (r := (some (.object "com/example/sownd/sownd/model/TruthValue"))) (by decide +kernel) rfl rfl (W := 1) (by show 2 * 0 + _ ≤ _; exact Nat.le_of_eq rfl) (hb hby at_42) (by decide) (by decide) (by decide) (by decide)
      have N44 := Fr.app N43 (Fr.nil n0)
      refine own_go st44 ?_
      show own_G p e below _ T44 (mkF m 45 #[.val (.int i0), .val (.int i1), .val (.int (2 : Int32)), .val (.int (1 : Int32)), .val (.ref a_TRUE), .val (.ref a_UNDEFINED), .val (.ref a_TRUE)] [(.ref (own_pick a_FALSE a_TRUE a_UNDEFINED (2 : Int32))), (.ref a_TRUE)])
      have r44 : (own_pick a_FALSE a_TRUE a_UNDEFINED (2 : Int32)) = a_TRUE := by unfold own_pick; rw [if_neg (show ¬ ((2 : Int32) = (0 : Int32)) by decide), if_neg (show ¬ ((2 : Int32) = (1 : Int32)) by decide)]
      rw [r44]
      show own_G p e below _ T44 (mkF m 45 #[.val (.int i0), .val (.int i1), .val (.int (2 : Int32)), .val (.int (1 : Int32)), .val (.ref a_TRUE), .val (.ref a_UNDEFINED), .val (.ref a_TRUE)] [(.ref a_TRUE), (.ref a_TRUE)])
      refine own_go (fun t k => Jvm.Free.XT.acmpNo X44.here hx rfl (hb hby at_45) rfl rfl rfl (own_acnF rfl) k) ?_
      show own_G p e below _ T44 (mkF m 48 #[.val (.int i0), .val (.int i1), .val (.int (2 : Int32)), .val (.int (1 : Int32)), .val (.ref a_TRUE), .val (.ref a_UNDEFINED), .val (.ref a_TRUE)] [])
      refine own_go (fun t k => XS.iconst X44.here hx rfl (hb hby at_48) k) ?_
      show own_G p e below _ T44 (mkF m 49 #[.val (.int i0), .val (.int i1), .val (.int (2 : Int32)), .val (.int (1 : Int32)), .val (.ref a_TRUE), .val (.ref a_UNDEFINED), .val (.ref a_TRUE)] [(.int (1 : Int32))])
      refine own_go (fun t k => XS.goto X44.here hx rfl (pc0 := 49) (pc' := 53) rfl (hb hby at_49) (by decide) (by decide) k) ?_
      show own_G p e below _ T44 (mkF m 53 #[.val (.int i0), .val (.int i1), .val (.int (2 : Int32)), .val (.int (1 : Int32)), .val (.ref a_TRUE), .val (.ref a_UNDEFINED), .val (.ref a_TRUE)] [(.int (1 : Int32))])
      exact own_retN X44 hx hlk hret (by simp) (hb hby at_53) (by decide) (by decide) ⟨rfl, N44⟩
    · rw [hk34]
      show own_G p e below _ T0 (mkF m 13 #[.val (.int i0), .val (.int i1), .val (.int (2 : Int32)), .unset, .unset, .unset, .unset] [(.int (2 : Int32))])
      refine own_go (fun t k => XS.istoreN X0.here hx rfl (hb hby at_13) rfl (l' := #[.val (.int i0), .val (.int i1), .val (.int (2 : Int32)), .val (.int (2 : Int32)), .unset, .unset, .unset]) rfl k) ?_
      show own_G p e below _ T0 (mkF m 14 #[.val (.int i0), .val (.int i1), .val (.int (2 : Int32)), .val (.int (2 : Int32)), .unset, .unset, .unset] [])
      refine own_go (fun t k => XS.iloadN X0.here hx rfl (hb hby at_14) rfl k) ?_
      show own_G p e below _ T0 (mkF m 15 #[.val (.int i0), .val (.int i1), .val (.int (2 : Int32)), .val (.int (2 : Int32)), .unset, .unset, .unset] [(.int (2 : Int32))])
      obtain ⟨T45, L45, v45, X45, ⟨rfl, rfl, q45⟩, st45⟩ := own_callS X0 hx hZ (y := (⟨"com/example/sownd/sownd/model/TruthValueOrPinLaw", "pick", "(I)Lcom/example/sownd/sownd/model/TruthValue;"⟩ : MethodName)) hown (hw _ (List.mem_of_getElem? (i := 1) rfl)) (hw _ (List.mem_of_getElem? (i := 2) rfl)) (hw _ (List.mem_of_getElem? (i := 3) rfl)) (hw _ (List.mem_of_getElem? (i := 4) rfl)) (by decide) (c_pick l Z a0 hw a_FALSE a_TRUE a_UNDEFINED (2 : Int32) h0 B ) e0 (argsL := [(.int (2 : Int32))]) (rest := []) (g := (mkF m 15 #[.val (.int i0), .val (.int i1), .val (.int (2 : Int32)), .val (.int (2 : Int32)), .unset, .unset, .unset] [(.int (2 : Int32))])) rfl (by rw [hml]; rfl) (ps := [.int]) (r := (some (.object "com/example/sownd/sownd/model/TruthValue"))) (by decide +kernel) rfl rfl (W := 0) (by show 2 * 0 + _ ≤ _; exact Nat.le_of_eq rfl) (hb hby at_15) (by decide) (by decide) (by decide) (by decide)
      have N45 := Fr.app N0 (Fr.nil n0)
      refine own_go st45 ?_
      show own_G p e below _ T45 (mkF m 18 #[.val (.int i0), .val (.int i1), .val (.int (2 : Int32)), .val (.int (2 : Int32)), .unset, .unset, .unset] [(.ref (own_pick a_FALSE a_TRUE a_UNDEFINED (2 : Int32)))])
      have r45 : (own_pick a_FALSE a_TRUE a_UNDEFINED (2 : Int32)) = a_TRUE := by unfold own_pick; rw [if_neg (show ¬ ((2 : Int32) = (0 : Int32)) by decide), if_neg (show ¬ ((2 : Int32) = (1 : Int32)) by decide)]
      rw [r45]
      show own_G p e below _ T45 (mkF m 18 #[.val (.int i0), .val (.int i1), .val (.int (2 : Int32)), .val (.int (2 : Int32)), .unset, .unset, .unset] [(.ref a_TRUE)])
      refine own_go (fun t k => XS.astore X45.here hx rfl (hb hby at_18) rfl rfl (l' := #[.val (.int i0), .val (.int i1), .val (.int (2 : Int32)), .val (.int (2 : Int32)), .val (.ref a_TRUE), .unset, .unset]) rfl k) ?_
      show own_G p e below _ T45 (mkF m 20 #[.val (.int i0), .val (.int i1), .val (.int (2 : Int32)), .val (.int (2 : Int32)), .val (.ref a_TRUE), .unset, .unset] [])
      refine own_go (fun t k => XS.iloadN X45.here hx rfl (hb hby at_20) rfl k) ?_
      show own_G p e below _ T45 (mkF m 21 #[.val (.int i0), .val (.int i1), .val (.int (2 : Int32)), .val (.int (2 : Int32)), .val (.ref a_TRUE), .unset, .unset] [(.int (2 : Int32))])
      obtain ⟨T46, L46, v46, X46, ⟨rfl, rfl, q46⟩, st46⟩ := own_callS X45 hx hZ (y := (⟨"com/example/sownd/sownd/model/TruthValueOrPinLaw", "pick", "(I)Lcom/example/sownd/sownd/model/TruthValue;"⟩ : MethodName)) hown (hw _ (List.mem_of_getElem? (i := 1) rfl)) (hw _ (List.mem_of_getElem? (i := 2) rfl)) (hw _ (List.mem_of_getElem? (i := 3) rfl)) (hw _ (List.mem_of_getElem? (i := 4) rfl)) (by decide) (c_pick l Z a0 hw a_FALSE a_TRUE a_UNDEFINED (2 : Int32) h0 B ) q45 (argsL := [(.int (2 : Int32))]) (rest := []) (g := (mkF m 21 #[.val (.int i0), .val (.int i1), .val (.int (2 : Int32)), .val (.int (2 : Int32)), .val (.ref a_TRUE), .unset, .unset] [(.int (2 : Int32))])) rfl (by rw [hml]; rfl) (ps := [.int]) (r := (some (.object "com/example/sownd/sownd/model/TruthValue"))) (by decide +kernel) rfl rfl (W := 0) (by show 2 * 0 + _ ≤ _; exact Nat.le_of_eq rfl) (hb hby at_21) (by decide) (by decide) (by decide) (by decide)
      have N46 := Fr.app N45 (Fr.nil n0)
      refine own_go st46 ?_
      show own_G p e below _ T46 (mkF m 24 #[.val (.int i0), .val (.int i1), .val (.int (2 : Int32)), .val (.int (2 : Int32)), .val (.ref a_TRUE), .unset, .unset] [(.ref (own_pick a_FALSE a_TRUE a_UNDEFINED (2 : Int32)))])
      have r46 : (own_pick a_FALSE a_TRUE a_UNDEFINED (2 : Int32)) = a_TRUE := by unfold own_pick; rw [if_neg (show ¬ ((2 : Int32) = (0 : Int32)) by decide), if_neg (show ¬ ((2 : Int32) = (1 : Int32)) by decide)]
      rw [r46]
      show own_G p e below _ T46 (mkF m 24 #[.val (.int i0), .val (.int i1), .val (.int (2 : Int32)), .val (.int (2 : Int32)), .val (.ref a_TRUE), .unset, .unset] [(.ref a_TRUE)])
      refine own_go (fun t k => XS.astore X46.here hx rfl (hb hby at_24) rfl rfl (l' := #[.val (.int i0), .val (.int i1), .val (.int (2 : Int32)), .val (.int (2 : Int32)), .val (.ref a_TRUE), .val (.ref a_TRUE), .unset]) rfl k) ?_
      show own_G p e below _ T46 (mkF m 26 #[.val (.int i0), .val (.int i1), .val (.int (2 : Int32)), .val (.int (2 : Int32)), .val (.ref a_TRUE), .val (.ref a_TRUE), .unset] [])
      refine own_go (fun t k => XS.aload X46.here hx rfl (hb hby at_26) rfl rfl k) ?_
      show own_G p e below _ T46 (mkF m 28 #[.val (.int i0), .val (.int i1), .val (.int (2 : Int32)), .val (.int (2 : Int32)), .val (.ref a_TRUE), .val (.ref a_TRUE), .unset] [(.ref a_TRUE)])
      refine own_go (fun t k => XS.aload X46.here hx rfl (hb hby at_28) rfl rfl k) ?_
      show own_G p e below _ T46 (mkF m 30 #[.val (.int i0), .val (.int i1), .val (.int (2 : Int32)), .val (.int (2 : Int32)), .val (.ref a_TRUE), .val (.ref a_TRUE), .unset] [(.ref a_TRUE), (.ref a_TRUE)])
      obtain ⟨T47, L47, v47, X47, ⟨rfl, rfl, q47⟩, st47⟩ := own_callV X46 hx hZ (y := (⟨"com/example/sownd/sownd/model/TruthValue", "or", "(Lcom/example/sownd/sownd/model/TruthValue;)Lcom/example/sownd/sownd/model/TruthValue;"⟩ : MethodName)) (z := (⟨"com/example/sownd/sownd/model/TruthValue", "or", "(Lcom/example/sownd/sownd/model/TruthValue;)Lcom/example/sownd/sownd/model/TruthValue;"⟩ : MethodName)) hown (hw _ (List.mem_of_getElem? (i := 8) rfl)) (hw _ (List.mem_of_getElem? (i := 9) rfl)) (hw _ (List.mem_of_getElem? (i := 11) rfl)) (hw _ (List.mem_of_getElem? (i := 11) rfl)) (hw _ (List.mem_of_getElem? (i := 10) rfl)) (hw _ (List.mem_of_getElem? (i := 12) rfl)) (hw _ (List.mem_of_getElem? (i := 6) rfl)) (notFace_of_selects (args := #[]) (mvT hZ (hw _ (List.mem_of_getElem? (i := 11) rfl)))) (by decide) (c_op l Z a0 hw a_FALSE a_TRUE a_UNDEFINED a_TRUE a_TRUE h0 B ) q46 E_TRUE (argsL := [(.ref a_TRUE)]) (rest := []) (g := (mkF m 30 #[.val (.int i0), .val (.int i1), .val (.int (2 : Int32)), .val (.int (2 : Int32)), .val (.ref a_TRUE), .val (.ref a_TRUE), .unset] [(.ref a_TRUE), (.ref a_TRUE)])) rfl (by rw [hml]; rfl) (ps := [(.object "com/example/sownd/sownd/model/TruthValue")]) (r := (some (.object "com/example/sownd/sownd/model/TruthValue"))) (by decide +kernel) rfl rfl (W := 0) (by show 2 * 0 + _ ≤ _; exact Nat.le_of_eq rfl) (hb hby at_30) (by decide) (by decide) (by decide) (by decide)
      have N47 := Fr.app N46 (Fr.nil n0)
      refine own_go st47 ?_
      show own_G p e below _ T47 (mkF m 33 #[.val (.int i0), .val (.int i1), .val (.int (2 : Int32)), .val (.int (2 : Int32)), .val (.ref a_TRUE), .val (.ref a_TRUE), .unset] [(.ref (own_op a_FALSE a_TRUE a_UNDEFINED a_TRUE a_TRUE))])
      have r47 : (own_op a_FALSE a_TRUE a_UNDEFINED a_TRUE a_TRUE) = a_TRUE := by unfold own_op; rw [if_pos (rfl : a_TRUE = a_TRUE)]
      rw [r47]
      show own_G p e below _ T47 (mkF m 33 #[.val (.int i0), .val (.int i1), .val (.int (2 : Int32)), .val (.int (2 : Int32)), .val (.ref a_TRUE), .val (.ref a_TRUE), .unset] [(.ref a_TRUE)])
      refine own_go (fun t k => XS.astore X47.here hx rfl (hb hby at_33) rfl rfl (l' := #[.val (.int i0), .val (.int i1), .val (.int (2 : Int32)), .val (.int (2 : Int32)), .val (.ref a_TRUE), .val (.ref a_TRUE), .val (.ref a_TRUE)]) rfl k) ?_
      show own_G p e below _ T47 (mkF m 35 #[.val (.int i0), .val (.int i1), .val (.int (2 : Int32)), .val (.int (2 : Int32)), .val (.ref a_TRUE), .val (.ref a_TRUE), .val (.ref a_TRUE)] [])
      refine own_go (fun t k => XS.aload X47.here hx rfl (hb hby at_35) rfl rfl k) ?_
      show own_G p e below _ T47 (mkF m 37 #[.val (.int i0), .val (.int i1), .val (.int (2 : Int32)), .val (.int (2 : Int32)), .val (.ref a_TRUE), .val (.ref a_TRUE), .val (.ref a_TRUE)] [(.ref a_TRUE)])
      refine own_go (fun t k => XS.iloadN X47.here hx rfl (hb hby at_37) rfl k) ?_
      show own_G p e below _ T47 (mkF m 38 #[.val (.int i0), .val (.int i1), .val (.int (2 : Int32)), .val (.int (2 : Int32)), .val (.ref a_TRUE), .val (.ref a_TRUE), .val (.ref a_TRUE)] [(.int (2 : Int32)), (.ref a_TRUE)])
      refine own_go (fun t k => XS.iloadN X47.here hx rfl (hb hby at_38) rfl k) ?_
      show own_G p e below _ T47 (mkF m 39 #[.val (.int i0), .val (.int i1), .val (.int (2 : Int32)), .val (.int (2 : Int32)), .val (.ref a_TRUE), .val (.ref a_TRUE), .val (.ref a_TRUE)] [(.int (2 : Int32)), (.int (2 : Int32)), (.ref a_TRUE)])
      obtain ⟨T48, L48, v48, X48, ⟨rfl, rfl, q48⟩, st48⟩ := own_callS X47 hx hZ (y := (⟨"java/lang/Math", "max", "(II)I"⟩ : MethodName)) hown (hw _ (List.mem_of_getElem? (i := 18) rfl)) (hw _ (List.mem_of_getElem? (i := 19) rfl)) (hw _ (List.mem_of_getElem? (i := 20) rfl)) (hw _ (List.mem_of_getElem? (i := 21) rfl)) (by decide) (c_mm l Z a0 hw (2 : Int32) (2 : Int32) h0  ) q47 (argsL := [(.int (2 : Int32)), (.int (2 : Int32))]) (rest := [(.ref a_TRUE)]) (g := (mkF m 39 #[.val (.int i0), .val (.int i1), .val (.int (2 : Int32)), .val (.int (2 : Int32)), .val (.ref a_TRUE), .val (.ref a_TRUE), .val (.ref a_TRUE)] [(.int (2 : Int32)), (.int (2 : Int32)), (.ref a_TRUE)])) rfl (by rw [hml]; rfl) (ps := [.int, .int]) (r := (some .int)) (by decide +kernel) rfl rfl (W := 1) (by show 2 * 0 + _ ≤ _; exact Nat.le_of_eq rfl) (hb hby at_39) (by decide) (by decide) (by decide) (by decide)
      have N48 := Fr.app N47 (Fr.nil n0)
      refine own_go st48 ?_
      show own_G p e below _ T48 (mkF m 42 #[.val (.int i0), .val (.int i1), .val (.int (2 : Int32)), .val (.int (2 : Int32)), .val (.ref a_TRUE), .val (.ref a_TRUE), .val (.ref a_TRUE)] [(.int (own_mm (2 : Int32) (2 : Int32))), (.ref a_TRUE)])
      have r48 : (own_mm (2 : Int32) (2 : Int32)) = (2 : Int32) := by unfold own_mm; rw [if_neg (show ¬ ((2 : Int32) < (2 : Int32)) by decide)]
      rw [r48]
      show own_G p e below _ T48 (mkF m 42 #[.val (.int i0), .val (.int i1), .val (.int (2 : Int32)), .val (.int (2 : Int32)), .val (.ref a_TRUE), .val (.ref a_TRUE), .val (.ref a_TRUE)] [(.int (2 : Int32)), (.ref a_TRUE)])
      obtain ⟨T49, L49, v49, X49, ⟨rfl, rfl, q49⟩, st49⟩ := own_callS X48 hx hZ (y := (⟨"com/example/sownd/sownd/model/TruthValueOrPinLaw", "pick", "(I)Lcom/example/sownd/sownd/model/TruthValue;"⟩ : MethodName)) hown (hw _ (List.mem_of_getElem? (i := 1) rfl)) (hw _ (List.mem_of_getElem? (i := 2) rfl)) (hw _ (List.mem_of_getElem? (i := 3) rfl)) (hw _ (List.mem_of_getElem? (i := 4) rfl)) (by decide) (c_pick l Z a0 hw a_FALSE a_TRUE a_UNDEFINED (2 : Int32) h0 B ) q48 (argsL := [(.int (2 : Int32))]) (rest := [(.ref a_TRUE)]) (g := (mkF m 42 #[.val (.int i0), .val (.int i1), .val (.int (2 : Int32)), .val (.int (2 : Int32)), .val (.ref a_TRUE), .val (.ref a_TRUE), .val (.ref a_TRUE)] [(.int (2 : Int32)), (.ref a_TRUE)])) rfl (by rw [hml]; rfl) (ps := [.int]) (r := (some (.object "com/example/sownd/sownd/model/TruthValue"))) (by decide +kernel) rfl rfl (W := 1) (by show 2 * 0 + _ ≤ _; exact Nat.le_of_eq rfl) (hb hby at_42) (by decide) (by decide) (by decide) (by decide)
      have N49 := Fr.app N48 (Fr.nil n0)
      refine own_go st49 ?_
      show own_G p e below _ T49 (mkF m 45 #[.val (.int i0), .val (.int i1), .val (.int (2 : Int32)), .val (.int (2 : Int32)), .val (.ref a_TRUE), .val (.ref a_TRUE), .val (.ref a_TRUE)] [(.ref (own_pick a_FALSE a_TRUE a_UNDEFINED (2 : Int32))), (.ref a_TRUE)])
      have r49 : (own_pick a_FALSE a_TRUE a_UNDEFINED (2 : Int32)) = a_TRUE := by unfold own_pick; rw [if_neg (show ¬ ((2 : Int32) = (0 : Int32)) by decide), if_neg (show ¬ ((2 : Int32) = (1 : Int32)) by decide)]
      rw [r49]
      show own_G p e below _ T49 (mkF m 45 #[.val (.int i0), .val (.int i1), .val (.int (2 : Int32)), .val (.int (2 : Int32)), .val (.ref a_TRUE), .val (.ref a_TRUE), .val (.ref a_TRUE)] [(.ref a_TRUE), (.ref a_TRUE)])
      refine own_go (fun t k => Jvm.Free.XT.acmpNo X49.here hx rfl (hb hby at_45) rfl rfl rfl (own_acnF rfl) k) ?_
      show own_G p e below _ T49 (mkF m 48 #[.val (.int i0), .val (.int i1), .val (.int (2 : Int32)), .val (.int (2 : Int32)), .val (.ref a_TRUE), .val (.ref a_TRUE), .val (.ref a_TRUE)] [])
      refine own_go (fun t k => XS.iconst X49.here hx rfl (hb hby at_48) k) ?_
      show own_G p e below _ T49 (mkF m 49 #[.val (.int i0), .val (.int i1), .val (.int (2 : Int32)), .val (.int (2 : Int32)), .val (.ref a_TRUE), .val (.ref a_TRUE), .val (.ref a_TRUE)] [(.int (1 : Int32))])
      refine own_go (fun t k => XS.goto X49.here hx rfl (pc0 := 49) (pc' := 53) rfl (hb hby at_49) (by decide) (by decide) k) ?_
      show own_G p e below _ T49 (mkF m 53 #[.val (.int i0), .val (.int i1), .val (.int (2 : Int32)), .val (.int (2 : Int32)), .val (.ref a_TRUE), .val (.ref a_TRUE), .val (.ref a_TRUE)] [(.int (1 : Int32))])
      exact own_retN X49 hx hlk hret (by simp) (hb hby at_53) (by decide) (by decide) ⟨rfl, N49⟩
set_option maxRecDepth 65536 in
set_option maxHeartbeats 40000000 in
theorem comes_1 {Post : Tables → Env → Array Value → State → Outcome → State → Prop} (hpost : ∀ tb e args s v u, (limb_1_1.after args s (.returned v) u = true ∧ limb_1_2.after args s (.returned v) u = true ∧ True) → FrameEnd s (.returned v) u (Jvm.fieldLocs frame_1_writes args s ++ Jvm.arrayLocs frame_1_arrays args s ++ Jvm.staticLocs frame_1_statics s) 0 0 → Post tb e args s (.returned v) u) :
    ArmFor flags0 classFile x code maxLocals ret World_1 tables_1 room_1 Calls_1 rest_1 Pre_1 Post := by
  intro l hfl _ _ p e ha hc hk s m args below hf hA hF happ hP
  obtain ⟨hcalls, hrest, hpre⟩ := hP
  obtain ⟨-, -, -, hnamed, -, -, -, hat⟩ := (Spec.applies_iff hf).mp happ
  obtain ⟨hg, hn⟩ := and_e (Cond.before_iff.mp (show (Jvm.Cond.and given_1 narrow_1).before args s = true from hpre))
  obtain ⟨h1, hg⟩ := and_e hg
  obtain ⟨w0, w1, rfl⟩ : ∃ w0 w1 : Value, args = #[w0, w1] := by
    have hs : args.size = 2 := by simpa [Cond.value, given_1] using h1
    obtain ⟨L⟩ := args
    match L, hs with
    | [w0, w1], _ => exact ⟨w0, w1, rfl⟩
  obtain ⟨hi0, hg⟩ := and_e hg
  obtain ⟨i0, ei0⟩ := is_v hi0
  obtain rfl : w0 = (.int i0) := Option.some.inj ei0
  obtain ⟨i1, ei1⟩ := is_v hg
  obtain rfl : w1 = (.int i1) := Option.some.inj ei1
  have hw := fun d (hd : d ∈ tables_1) => atoms_spec (ws := Jvm.Cond.code x code maxLocals ret :: tables_1) hat d (List.mem_cons_of_mem _ hd)
  obtain ⟨n0, hn⟩ := and_e hn
  obtain ⟨a_FALSE, v_FALSE⟩ := exa_v n0
  have S_FALSE := Sta.start v_FALSE (Or.inr ⟨(hw _ (List.mem_of_getElem? (i := 6) rfl)), (hw _ (List.mem_of_getElem? (i := 7) rfl))⟩)
  have E_FALSE := Exa.start v_FALSE n0
  obtain ⟨n1, hn⟩ := and_e hn
  obtain ⟨a_TRUE, v_TRUE⟩ := exa_v n1
  have S_TRUE := Sta.start v_TRUE (Or.inr ⟨(hw _ (List.mem_of_getElem? (i := 6) rfl)), (hw _ (List.mem_of_getElem? (i := 14) rfl))⟩)
  have E_TRUE := Exa.start v_TRUE n1
  obtain ⟨n2, hn⟩ := and_e hn
  have F_FALSE_ordinal := own_fld v_FALSE n2
  obtain ⟨n3, hn⟩ := and_e hn
  have F_TRUE_ordinal := own_fld v_TRUE n3
  obtain ⟨n4, hn⟩ := and_e hn
  obtain ⟨a_UNDEFINED, v_UNDEFINED⟩ := exa_v n4
  have S_UNDEFINED := Sta.start v_UNDEFINED (Or.inr ⟨(hw _ (List.mem_of_getElem? (i := 6) rfl)), (hw _ (List.mem_of_getElem? (i := 16) rfl))⟩)
  have E_UNDEFINED := Exa.start v_UNDEFINED n4
  have F_UNDEFINED_ordinal := own_fld v_UNDEFINED hn
  have B : own_B s s.heap a_FALSE a_TRUE a_UNDEFINED := ⟨S_FALSE, E_FALSE, S_TRUE, E_TRUE, F_FALSE_ordinal, F_TRUE_ordinal, S_UNDEFINED, E_UNDEFINED, F_UNDEFINED_ordinal⟩
  obtain ⟨n, o, h1, h2, h3, _, L, rfl, ⟨rfl, N⟩, hq⟩ := rm0 l s _ hw i0 i1 a_FALSE a_TRUE a_UNDEFINED s.heap s.heap.size (Nat.le_refl _) B tables_1 p e ha hc hk s m _ below hf ((Spec.applies_iff_loose hf).mp happ).1 ⟨rfl, State.Warmed39.refl s, rfl⟩ trivial
  refine ⟨n, _, h1, h2, h3, hpost _ _ _ _ _ _ ⟨Jvm.Cond.after_iff.mpr rfl, Jvm.Cond.after_iff.mpr (eq_i res_at (Term.int_eval (1)) rfl), trivial⟩ ⟨hq.1, hq.2.1, (hq.2.2.sift fun y hy => Or.inr (N y hy)).mono (by decide) (by decide)⟩⟩
theorem main_1_1 : Claimed_1_1 := comes_1 fun _ _ _ _ _ _ h hF => ⟨h.1, hF⟩
theorem main_1_2 : Claimed_1_2 := comes_1 fun _ _ _ _ _ _ h hF => ⟨h.2.1, hF⟩
end Jvm.Pilot.@@N@@
namespace Jvm.Pilot.@@N@@
open Jvm Jvm.ClassFile Sem Op Lib Jvm.Free Jvm.Stand Jvm.Pilot.@@N@@.Jvm.D
/-! MADE BY PROGRAM (witnessworld.py) out of the Statement's table words and the real class files: 13 classes; the members and pool entries that the words name. The judged class is class 1, her method 2. -/
namespace start1
open Jvm.ClassFile
def u (s : String) : CpInfo := .utf8 (stringToUtf16 s)
/-- a pool by its gaps: so many unusable entries, then the entry; so many at the end -/
def gap : Nat → List CpInfo → List CpInfo
  | 0, r => r
  | n + 1, r => .unusable :: gap n r
def poolList (es : List (Nat × CpInfo)) (last : Nat) : List CpInfo := es.foldr (fun e r => gap e.1 (e.2 :: r)) (gap last [])
def pool (es : List (Nat × CpInfo)) (last : Nat) : Array CpInfo := ⟨poolList es last⟩
def fileOf (pool : Array CpInfo) (this : Nat) (attrs : Array Attribute := #[]) (ms : Array MethodInfo := #[]) (fl : Nat := 33) (sup : Nat := 0) (ifs : Array Nat := #[]) (fds : Array FieldInfo := #[]) : ClassFile where
  minorVersion := 0
  majorVersion := 65
  constantPool := pool
  accessFlags := fl
  thisClass := this
  superClass := sup
  interfaces := ifs
  fields := fds
  methods := ms
  attributes := attrs
def plain (name : String) (sup : Option ClassId) : Class where
  name := name
  kind := .ordinary
  loader := none
  accessFlags := 33
  super := sup
  interfaces := #[]
  cf := none
  fields := #[]
  methods := #[]
  instanceTypes := #[]
  staticTypes := #[]
  resolved := #[]
  callSites := []
  init := .initialized
  statics := none
  mirror := none

def pool0 : Array CpInfo := pool [(5, u "<init>"), (0, u "()V"), (1, .class_ 10), (1, u "java/lang/Object")] 113

def k0m0 : Method := { name := "<init>", desc := "()V", sig := { parameters := [], returnType := none }, accessFlags := 1, code := none }
/-- java/lang/Object -/
def k0 : Class := { plain "java/lang/Object" none with
  accessFlags := 33
  interfaces := #[]
  cf := some (fileOf pool0 8 #[] #[{ accessFlags := 1, nameIndex := 5, descriptorIndex := 6, attributes := #[] }] 33 0 #[] #[])
  fields := #[]
  methods := #[k0m0]
  instanceTypes := #[]
  staticTypes := #[]
  resolved := Array.replicate 124 none
  statics := none }

def pool1 : Array CpInfo := pool [(2, .class_ 4), (1, u "java/lang/Object"), (0, u "<init>"), (0, u "()V"), (0, .fieldref 8 9), (0, .class_ 10), (0, .nameAndType 11 12), (0, u "com/example/sownd/sownd/model/TruthValue"), (0, u "FALSE"), (0, u "Lcom/example/sownd/sownd/model/TruthValue;"), (0, .fieldref 8 14), (0, .nameAndType 15 12), (0, u "UNDEFINED"), (0, .fieldref 8 17), (0, .nameAndType 18 12), (0, u "TRUE"), (0, .integer 2147483647), (0, .methodref 21 22), (0, .class_ 23), (0, .nameAndType 24 25), (0, u "com/example/sownd/sownd/model/TruthValueOrPinLaw"), (0, u "pick"), (0, u "(I)Lcom/example/sownd/sownd/model/TruthValue;"), (0, .methodref 8 27), (0, .nameAndType 28 29), (0, u "or"), (0, u "(Lcom/example/sownd/sownd/model/TruthValue;)Lcom/example/sownd/sownd/model/TruthValue;"), (0, .methodref 31 32), (0, .class_ 33), (0, .nameAndType 34 35), (0, u "java/lang/Math"), (0, u "max"), (0, u "(II)I"), (3, u "law"), (0, u "(II)Z")] 2

def k1m0 : Method := { name := "<init>", desc := "()V", sig := { parameters := [], returnType := none }, accessFlags := 1, code := none }
def k1c1 : Code := { maxStack := 2, maxLocals := 1, code := method_2_code, exceptionTable := #[], attributes := #[] }
def k1m1 : Method := { name := "pick", desc := "(I)Lcom/example/sownd/sownd/model/TruthValue;", sig := { parameters := [.int], returnType := some (.object "com/example/sownd/sownd/model/TruthValue") }, accessFlags := 10, code := some k1c1 }
def k1c2 : Code := { maxStack := 3, maxLocals := 7, code := code, exceptionTable := #[], attributes := #[] }
def k1m2 : Method := { name := "law", desc := "(II)Z", sig := { parameters := [.int, .int], returnType := some .boolean }, accessFlags := 9, code := some k1c2 }
/-- com/example/sownd/sownd/model/TruthValueOrPinLaw -/
def k1 : Class := { plain "com/example/sownd/sownd/model/TruthValueOrPinLaw" (some 0) with
  accessFlags := 49
  interfaces := #[]
  cf := some (fileOf pool1 21 #[] #[{ accessFlags := 1, nameIndex := 5, descriptorIndex := 6, attributes := #[] }, { accessFlags := 10, nameIndex := 24, descriptorIndex := 25, attributes := #[] }, { accessFlags := 9, nameIndex := 39, descriptorIndex := 40, attributes := #[] }] 49 2 #[] #[])
  fields := #[]
  methods := #[k1m0, k1m1, k1m2]
  instanceTypes := #[]
  staticTypes := #[]
  resolved := Array.replicate 43 none
  statics := none }

def pool2 : Array CpInfo := pool [(1, .class_ 2), (0, u "java/lang/constant/Constable"), (0, .class_ 4), (0, u "java/lang/Object")] 6

/-- java/lang/constant/Constable -/
def k2 : Class := { plain "java/lang/constant/Constable" (some 0) with
  accessFlags := 1537
  interfaces := #[]
  cf := some (fileOf pool2 1 #[] #[] 1537 3 #[] #[])
  fields := #[]
  methods := #[]
  instanceTypes := #[]
  staticTypes := #[]
  resolved := Array.replicate 11 none
  statics := none }

def pool3 : Array CpInfo := pool [(1, .class_ 2), (0, u "java/lang/Comparable"), (0, .class_ 4), (0, u "java/lang/Object")] 7

/-- java/lang/Comparable -/
def k3 : Class := { plain "java/lang/Comparable" (some 0) with
  accessFlags := 1537
  interfaces := #[]
  cf := some (fileOf pool3 1 #[] #[] 1537 3 #[] #[])
  fields := #[]
  methods := #[]
  instanceTypes := #[]
  staticTypes := #[]
  resolved := Array.replicate 12 none
  statics := none }

def pool4 : Array CpInfo := pool [(1, .class_ 2), (0, u "java/io/Serializable"), (0, .class_ 4), (0, u "java/lang/Object")] 2

/-- java/io/Serializable -/
def k4 : Class := { plain "java/io/Serializable" (some 0) with
  accessFlags := 1537
  interfaces := #[]
  cf := some (fileOf pool4 1 #[] #[] 1537 3 #[] #[])
  fields := #[]
  methods := #[]
  instanceTypes := #[]
  staticTypes := #[]
  resolved := Array.replicate 7 none
  statics := none }

def pool5 : Array CpInfo := pool [(2, .class_ 4), (1, u "java/lang/Enum"), (0, u "name"), (0, u "Ljava/lang/String;"), (2, u "ordinal"), (0, u "I"), (1, .class_ 14), (1, u "java/lang/Object"), (4, u "hash"), (86, .class_ 108), (1, u "java/lang/Enum$EnumDesc"), (2, .class_ 112), (0, u "java/lang/constant/Constable"), (0, .class_ 114), (0, u "java/lang/Comparable"), (0, .class_ 116), (0, u "java/io/Serializable")] 87

/-- java/lang/Enum -/
def k5 : Class := { plain "java/lang/Enum" (some 0) with
  accessFlags := 1057
  interfaces := #[2, 3, 4]
  cf := some (fileOf pool5 2 #[.nestMembers #[106]] #[] 1057 12 #[111, 113, 115] #[{ accessFlags := 18, nameIndex := 5, descriptorIndex := 6, attributes := #[] }, { accessFlags := 18, nameIndex := 9, descriptorIndex := 10, attributes := #[] }, { accessFlags := 2, nameIndex := 19, descriptorIndex := 10, attributes := #[] }])
  fields := #[{ name := "name", type := (.object "java/lang/String"), accessFlags := 18, slot := 0, constantValue := 0 }, { name := "ordinal", type := .int, accessFlags := 18, slot := 1, constantValue := 0 }, { name := "hash", type := .int, accessFlags := 2, slot := 2, constantValue := 0 }]
  methods := #[]
  instanceTypes := #[(.object "java/lang/String"), .int, .int]
  staticTypes := #[]
  resolved := Array.replicate 204 none
  statics := none }

def pool6 : Array CpInfo := pool [(1, .class_ 2), (0, u "com/example/sownd/sownd/model/TruthValue"), (0, .fieldref 1 4), (0, .nameAndType 5 6), (0, u "TRUE"), (0, u "Lcom/example/sownd/sownd/model/TruthValue;"), (0, .fieldref 1 8), (0, .nameAndType 9 6), (0, u "FALSE"), (0, .fieldref 1 11), (0, .nameAndType 12 6), (0, u "UNDEFINED"), (2, u "$VALUES"), (0, u "[Lcom/example/sownd/sownd/model/TruthValue;"), (6, .class_ 25), (1, u "java/lang/Enum"), (36, u "(Lcom/example/sownd/sownd/model/TruthValue;)Lcom/example/sownd/sownd/model/TruthValue;"), (0, u "or")] 4

def k6c0 : Code := { maxStack := 2, maxLocals := 2, code := prog_59_method_7_code, exceptionTable := #[], attributes := #[] }
def k6m0 : Method := { name := "or", desc := "(Lcom/example/sownd/sownd/model/TruthValue;)Lcom/example/sownd/sownd/model/TruthValue;", sig := { parameters := [(.object "com/example/sownd/sownd/model/TruthValue")], returnType := some (.object "com/example/sownd/sownd/model/TruthValue") }, accessFlags := 1, code := some k6c0 }
/-- com/example/sownd/sownd/model/TruthValue -/
def k6 : Class := { plain "com/example/sownd/sownd/model/TruthValue" (some 5) with
  accessFlags := 16433
  interfaces := #[]
  cf := some (fileOf pool6 1 #[] #[{ accessFlags := 1, nameIndex := 63, descriptorIndex := 62, attributes := #[] }] 16433 23 #[] #[{ accessFlags := 16409, nameIndex := 5, descriptorIndex := 6, attributes := #[] }, { accessFlags := 16409, nameIndex := 9, descriptorIndex := 6, attributes := #[] }, { accessFlags := 16409, nameIndex := 12, descriptorIndex := 6, attributes := #[] }, { accessFlags := 4122, nameIndex := 15, descriptorIndex := 16, attributes := #[] }])
  fields := #[{ name := "TRUE", type := (.object "com/example/sownd/sownd/model/TruthValue"), accessFlags := 16409, slot := 0, constantValue := 0 }, { name := "FALSE", type := (.object "com/example/sownd/sownd/model/TruthValue"), accessFlags := 16409, slot := 1, constantValue := 0 }, { name := "UNDEFINED", type := (.object "com/example/sownd/sownd/model/TruthValue"), accessFlags := 16409, slot := 2, constantValue := 0 }, { name := "$VALUES", type := (.array (.object "com/example/sownd/sownd/model/TruthValue")), accessFlags := 4122, slot := 3, constantValue := 0 }]
  methods := #[k6m0]
  instanceTypes := #[(.object "java/lang/String"), .int, .int]
  staticTypes := #[(.object "com/example/sownd/sownd/model/TruthValue"), (.object "com/example/sownd/sownd/model/TruthValue"), (.object "com/example/sownd/sownd/model/TruthValue"), (.array (.object "com/example/sownd/sownd/model/TruthValue"))]
  resolved := Array.replicate 68 none
  statics := some 0 }

def pool7 : Array CpInfo := pool [(1, .class_ 2), (0, u "java/lang/Math"), (1, .class_ 6), (1, u "java/lang/Object"), (0, u "<init>"), (0, u "()V"), (89, .class_ 100), (1, u "java/lang/Math$RandomNumberGeneratorHolder"), (71, u "negativeZeroFloatBits"), (0, u "J"), (2, u "negativeZeroDoubleBits"), (21, u "max"), (46, u "$assertionsDisabled"), (0, u "Z"), (88, u "(II)I"), (2, u "twoToTheDoubleScaleDown"), (0, u "D"), (4, u "twoToTheDoubleScaleUp"), (9, u "E"), (3, u "PI"), (2, u "TAU"), (2, u "DEGREES_TO_RADIANS"), (0, u "RADIANS_TO_DEGREES")] 94

def k7m0 : Method := { name := "<init>", desc := "()V", sig := { parameters := [], returnType := none }, accessFlags := 2, code := none }
def k7c1 : Code := { maxStack := 2, maxLocals := 2, code := jdk_29_method_65_code, exceptionTable := #[], attributes := #[] }
def k7m1 : Method := { name := "max", desc := "(II)I", sig := { parameters := [.int, .int], returnType := some .int }, accessFlags := 9, code := some k7c1 }
/-- java/lang/Math -/
def k7 : Class := { plain "java/lang/Math" (some 0) with
  accessFlags := 49
  interfaces := #[]
  cf := some (fileOf pool7 1 #[.nestMembers #[98]] #[{ accessFlags := 2, nameIndex := 7, descriptorIndex := 8, attributes := #[] }, { accessFlags := 9, nameIndex := 198, descriptorIndex := 335, attributes := #[] }] 49 4 #[] #[{ accessFlags := 25, nameIndex := 354, descriptorIndex := 339, attributes := #[] }, { accessFlags := 25, nameIndex := 358, descriptorIndex := 339, attributes := #[] }, { accessFlags := 25, nameIndex := 361, descriptorIndex := 339, attributes := #[] }, { accessFlags := 26, nameIndex := 364, descriptorIndex := 339, attributes := #[] }, { accessFlags := 26, nameIndex := 365, descriptorIndex := 339, attributes := #[] }, { accessFlags := 26, nameIndex := 172, descriptorIndex := 173, attributes := #[] }, { accessFlags := 26, nameIndex := 176, descriptorIndex := 173, attributes := #[] }, { accessFlags := 8, nameIndex := 344, descriptorIndex := 339, attributes := #[] }, { accessFlags := 8, nameIndex := 338, descriptorIndex := 339, attributes := #[] }, { accessFlags := 4120, nameIndex := 245, descriptorIndex := 246, attributes := #[] }])
  fields := #[{ name := "E", type := .double, accessFlags := 25, slot := 0, constantValue := 0 }, { name := "PI", type := .double, accessFlags := 25, slot := 1, constantValue := 0 }, { name := "TAU", type := .double, accessFlags := 25, slot := 2, constantValue := 0 }, { name := "DEGREES_TO_RADIANS", type := .double, accessFlags := 26, slot := 3, constantValue := 0 }, { name := "RADIANS_TO_DEGREES", type := .double, accessFlags := 26, slot := 4, constantValue := 0 }, { name := "negativeZeroFloatBits", type := .long, accessFlags := 26, slot := 5, constantValue := 0 }, { name := "negativeZeroDoubleBits", type := .long, accessFlags := 26, slot := 6, constantValue := 0 }, { name := "twoToTheDoubleScaleUp", type := .double, accessFlags := 8, slot := 7, constantValue := 0 }, { name := "twoToTheDoubleScaleDown", type := .double, accessFlags := 8, slot := 8, constantValue := 0 }, { name := "$assertionsDisabled", type := .boolean, accessFlags := 4120, slot := 9, constantValue := 0 }]
  methods := #[k7m0, k7m1]
  instanceTypes := #[]
  staticTypes := #[.double, .double, .double, .double, .double, .long, .long, .double, .double, .boolean]
  resolved := Array.replicate 460 none
  statics := none }

def pool8 : Array CpInfo := pool [(1, u "java/lang/Cloneable"), (0, .class_ 1), (0, u "java/lang/Object"), (0, .class_ 3)] 3

/-- java/lang/Cloneable -/
def k8 : Class := { plain "java/lang/Cloneable" (some 0) with
  accessFlags := 1537
  interfaces := #[]
  cf := some (fileOf pool8 2 #[] #[] 1537 4 #[] #[])
  fields := #[]
  methods := #[]
  instanceTypes := #[]
  staticTypes := #[]
  resolved := Array.replicate 8 none
  statics := none }

/-- the primitive byte -/
def k9 : Class := { plain "byte" none with kind := .primitive 'B', accessFlags := 0x411 }
/-- [B -/
def k10 : Class := { plain "[B" (some 0) with kind := .array 9 .byte, interfaces := #[8, 4], accessFlags := 1041 }

/-- the primitive int -/
def k11 : Class := { plain "int" none with kind := .primitive 'I', accessFlags := 0x411 }
/-- [I -/
def k12 : Class := { plain "[I" (some 0) with kind := .array 11 .int, interfaces := #[8, 4], accessFlags := 1041 }

def heap : Heap := #[{ cls := 6, slots := #[.ref 2, .ref 1, .ref 3, .null], vm := .statics 6 },
  { cls := 6, slots := #[.null, .int 1, .int 0], vm := .none },
  { cls := 6, slots := #[.null, .int 0, .int 0], vm := .none },
  { cls := 6, slots := #[.null, .int 2, .int 0], vm := .none }]
def classes : Array Class := #[k0, k1, k2, k3, k4, k5, k6, k7, k8, k9, k10, k11, k12]
def interned : List (Array UInt16 × Addr) := []
def slotsUsed : Nat := 13
def theMethod : MethodId := ⟨1, 2⟩
def args0 : Array Value := #[.int 5, .int 1]
def aboutOver (below : List Frame) : State where
  vm := { classes := classes, interned := interned.toArray }
  heap := heap
  slotsUsed := slotsUsed
  threads := #[{ frames := .invoking theMethod args0 :: below }]
def below0 : List Frame := [.native { method := ⟨0, 0⟩, args := #[] }]
def about1 : State := aboutOver below0
def p0 : Program := .bare "" "" ""
def e0 : Env := launch0.env 0 0 0
theorem w_frames : about1.frames = Frame.invoking theMethod args0 :: below0 := rfl
set_option maxRecDepth 65536 in
theorem w_args : argsFit about1.vm theMethod args0 = true := by decide +kernel
set_option maxRecDepth 65536 in
theorem w_heap : heapFits about1 = true := by decide +kernel
set_option maxRecDepth 65536 in
theorem w_runnable : about1.curStatus? = some .runnable := by decide +kernel
set_option maxRecDepth 65536 in
theorem w_alone : about1.alone = true := by decide +kernel
set_option maxRecDepth 65536 in
theorem w_named : about1.methodNamed? x = some theMethod := by decide +kernel
set_option maxRecDepth 65536 in
theorem w_hears : about1.hears theMethod below0 = true := by decide +kernel
set_option maxRecDepth 65536 in
theorem w_ripe : about1.ripe theMethod args0 below0 = true := by decide +kernel
theorem w_running : about1.status = .running := rfl
set_option maxRecDepth 65536 in
theorem w_room : about1.hasRoom e0.platform room_1 = true :=
  launch0.hasRoom_least _ room_1 (by decide +kernel) (by decide +kernel) (by decide +kernel) (by decide +kernel) (by decide +kernel) (by decide +kernel)
theorem allAtoms_all (ts : List Jvm.Cond) (a : Array Jvm.Value) (st : Jvm.State) : (allAtoms ts).before a st = ts.all (fun c => c.before a st) := by
  induction ts with
  | nil => rfl
  | cons c t ih =>
    show (Jvm.Cond.and c (allAtoms t)).before a st = _
    rw [Jvm.Cond.before_and, ih, List.all_cons]
def words1 : List Jvm.Cond := Jvm.Cond.code x code maxLocals ret :: tables_1
/-- a 'code' word, met by the world's own term for the bytes: nothing is compared byte by byte -/
theorem code_word {y : MethodName} {bytes : ByteArray} {mx : Nat} {rt : Option FieldType} {a : Array Value} {s : State} {m : MethodId} {meth : Method} {c : Code} (h1 : s.methodNamed? y = some m) (h2 : s.vm.method? m = some meth) (h3 : meth.code = some c) (h4 : c.code = bytes)
    (h5 : (c.maxLocals == mx && c.exceptionTable.isEmpty && decide (c.maxStack ≤ mostOperands) && decide (meth.sig.returnType = rt) && !meth.locks && decide (parseMethodDescriptor y.desc = some meth.sig)) = true) : (Jvm.Cond.code y bytes mx rt).before a s = true := by
  simp only [Bool.and_eq_true, beq_iff_eq, Bool.not_eq_true', decide_eq_true_eq] at h5
  obtain ⟨⟨⟨⟨⟨g1, g2⟩, g3⟩, g4⟩, g5⟩, g6⟩ := h5
  simp [Cond.before, Cond.holds, Cond.value, h1, h2, h3, h4, g1, g2, g3, g4, g5, g6]
def isCode : Jvm.Cond → Bool
  | .code _ _ _ _ => true
  | _ => false
theorem all_split {L : List Jvm.Cond} {P : Jvm.Cond → Bool} (h1 : L.all (fun c => isCode c || P c) = true) (h2 : ∀ c ∈ L.filter isCode, P c = true) : L.all P = true := by
  refine List.all_eq_true.mpr fun c hc => ?_
  have h := List.all_eq_true.mp h1 c hc
  rcases Bool.eq_false_or_eq_true (isCode c) with hi | hi
  · exact h2 c (List.mem_filter.mpr ⟨hc, hi⟩)
  · simpa [hi] using h
set_option maxRecDepth 65536 in
theorem w_c0 : (Jvm.Cond.code x code maxLocals ret).before args0 about1 = true := code_word (m := ⟨1, 2⟩) (meth := k1m2) (c := k1c2) (by decide +kernel) rfl rfl rfl (by decide +kernel)
set_option maxRecDepth 65536 in
theorem w_c1 : (Jvm.Cond.code ({ cls := "com/example/sownd/sownd/model/TruthValueOrPinLaw", name := "pick", desc := "(I)Lcom/example/sownd/sownd/model/TruthValue;" } : Jvm.MethodName) method_2_code (1 : Nat) (Option.some (Jvm.ClassFile.FieldType.object "com/example/sownd/sownd/model/TruthValue"))).before args0 about1 = true := code_word (m := ⟨1, 1⟩) (meth := k1m1) (c := k1c1) (by decide +kernel) rfl rfl rfl (by decide +kernel)
set_option maxRecDepth 65536 in
theorem w_c2 : (Jvm.Cond.code ({ cls := "com/example/sownd/sownd/model/TruthValue", name := "or", desc := "(Lcom/example/sownd/sownd/model/TruthValue;)Lcom/example/sownd/sownd/model/TruthValue;" } : Jvm.MethodName) prog_59_method_7_code (2 : Nat) (Option.some (Jvm.ClassFile.FieldType.object "com/example/sownd/sownd/model/TruthValue"))).before args0 about1 = true := code_word (m := ⟨6, 0⟩) (meth := k6m0) (c := k6c0) (by decide +kernel) rfl rfl rfl (by decide +kernel)
set_option maxRecDepth 65536 in
theorem w_c3 : (Jvm.Cond.code ({ cls := "java/lang/Math", name := "max", desc := "(II)I" } : Jvm.MethodName) jdk_29_method_65_code (2 : Nat) (Option.some Jvm.ClassFile.FieldType.int)).before args0 about1 = true := code_word (m := ⟨7, 1⟩) (meth := k7m1) (c := k7c1) (by decide +kernel) rfl rfl rfl (by decide +kernel)
def codes1 : List Jvm.Cond := [Jvm.Cond.code x code maxLocals ret, Jvm.Cond.code ({ cls := "com/example/sownd/sownd/model/TruthValueOrPinLaw", name := "pick", desc := "(I)Lcom/example/sownd/sownd/model/TruthValue;" } : Jvm.MethodName) method_2_code (1 : Nat) (Option.some (Jvm.ClassFile.FieldType.object "com/example/sownd/sownd/model/TruthValue")), Jvm.Cond.code ({ cls := "com/example/sownd/sownd/model/TruthValue", name := "or", desc := "(Lcom/example/sownd/sownd/model/TruthValue;)Lcom/example/sownd/sownd/model/TruthValue;" } : Jvm.MethodName) prog_59_method_7_code (2 : Nat) (Option.some (Jvm.ClassFile.FieldType.object "com/example/sownd/sownd/model/TruthValue")), Jvm.Cond.code ({ cls := "java/lang/Math", name := "max", desc := "(II)I" } : Jvm.MethodName) jdk_29_method_65_code (2 : Nat) (Option.some Jvm.ClassFile.FieldType.int)]
set_option maxRecDepth 65536 in
theorem codes_eq : words1.filter isCode = codes1 := rfl
theorem w_codes : ∀ c ∈ words1.filter isCode, c.before args0 about1 = true := by
  rw [codes_eq]
  intro c hc
  simp only [codes1, List.mem_cons, List.not_mem_nil, or_false] at hc
  rcases hc with rfl | rfl | rfl | rfl
  · exact w_c0
  · exact w_c1
  · exact w_c2
  · exact w_c3
set_option maxRecDepth 65536 in
theorem w_t1 : (words1.take 24).all (fun c => isCode c || c.before args0 about1) = true := by decide +kernel
set_option maxRecDepth 65536 in
theorem w_t2 : (words1.drop 24).all (fun c => isCode c || c.before args0 about1) = true := by decide +kernel
theorem w_tables : (allAtoms (Jvm.Cond.code x code maxLocals ret :: tables_1)).before args0 about1 = true := by
  rw [allAtoms_all]
  show words1.all (fun c => c.before args0 about1) = true
  refine all_split ?_ w_codes
  rw [← List.take_append_drop 24 words1, List.all_append, w_t1, w_t2]
  rfl
set_option maxRecDepth 65536 in
theorem w_case : (Jvm.Cond.and given_1 narrow_1).before args0 about1 = true := by decide +kernel
theorem w_applies : (headSpec (Jvm.Cond.code x code maxLocals ret :: tables_1) room_1).applies x e0.platform about1 = true :=
  (Spec.applies_iff w_frames).mpr ⟨w_running, w_runnable, w_alone, w_named, w_hears, w_ripe, w_room, w_tables⟩
theorem atStart : AtStart classFile x code maxLocals ret World_1 tables_1 room_1 Calls_1 rest_1 Pre_1 launch0 p0 e0 about1 theMethod args0 below0 :=
  ⟨lists_1, trivial, launch0.admits_env _ _ _, launch0.least_env, fairChoices_fair.cas, fairChoices_fair.clock, w_frames, w_args, w_heap, w_applies, trivial, trivial, w_case⟩
end start1
theorem witness_1 : WitnessClaimed_1 := ⟨start1.p0, start1.e0, start1.about1, start1.theMethod, start1.args0, start1.below0, start1.atStart⟩
end Jvm.Pilot.@@N@@
