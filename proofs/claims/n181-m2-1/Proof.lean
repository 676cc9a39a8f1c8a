import JvmDerived
import JvmDerived.Pilot.@@N@@Statement
import JvmDerived.Pilot.@@N@@Code
set_option linter.unusedVariables false
set_option linter.unusedSimpArgs false
@@BLOCK:NumsL.lean.txt@@
namespace Jvm.Pilot.@@N@@
open Jvm Jvm.ClassFile Sem Op Lib Jvm.Free Jvm.Stand Jvm.LawKit Jvm.RoadKit Bundle Jvm.Pilot.@@N@@.Jvm.D
section Own
variable {p : Program} {l : Launch} {e : Env} {R : Room} {s : State} {m : MethodId} {args : Array Value} {below : List Frame} {meth : Method} {c : Code} {T : State} {locs : List Loc} {cells slots : Nat} {Z : State} {a0 : Array Value} {h : Heap}
/-- from here the walk comes to an end that P holds of -/
def own_G (p : Program) (e : Env) (below : List Frame) (P : State → Outcome → Prop) (T : State) (g : JFrame) : Prop := ∃ t o, Steps p.tables e below (T.setTop g) t ∧ P t o
def own_P (below : List Frame) (s : State) (rm : Room) (Q : Option Value → Heap → List Loc → Prop) (t : State) (o : Outcome) : Prop := t.status = .running ∧ Ended t below o ∧ ∃ v L, o = .returned v ∧ Q v t.heap L ∧ FrameEnd s o t L rm.cells rm.slots
/-- a body's contract: over these arguments and this heap it returns, and Q holds of what it returns, the heap and the places written -/
def own_M (l : Launch) (Z : State) (y : MethodName) (code : ByteArray) (maxL : Nat) (ret : Option FieldType) (rm : Room) (as : Array Value) (h : Heap) (Q : Option Value → Heap → List Loc → Prop) : Prop :=
  ∀ ws : List Jvm.Cond, MetFree l y (head1 (Jvm.Cond.code y code maxL ret :: ws) rm) (fun a U => a = as ∧ Z.Warmed39 U.vm ∧ U.heap = h) (fun _ _ _ _ _ => True) (fun _ U o U' => ∃ v L, o = .returned v ∧ Q v U'.heap L ∧ FrameEnd U o U' L rm.cells rm.slots)
theorem own_go {P : State → Outcome → Prop} {T' : State} {g g' : JFrame} (st : ∀ t, Steps p.tables e below (T'.setTop g') t → Steps p.tables e below (T.setTop g) t) (k : own_G p e below P T' g') : own_G p e below P T g := by
  obtain ⟨t, o, h1, h2⟩ := k
  exact ⟨t, o, st t h1, h2⟩
theorem own_body {y : MethodName} {code : ByteArray} {maxL : Nat} {ret : Option FieldType} {rm : Room} {as : Array Value} {Q : Option Value → Heap → List Loc → Prop} (hn : plainName y.cls = true)
    (body : ∀ (p : Program) (e : Env) (s : State) (m : MethodId) (below : List Frame) (meth : Method) (c : Code) (T : State), p.tables.exec = Jvm.exec → c.code = code → c.maxLocals = maxL → meth.locks = false → s.vm.findClass y.cls = some m.cls → meth.sig.returnType = ret → meth.name = y.name → Z.Warmed39 s.vm → Stand p l e rm s m as below meth c T [] 0 0 → T.heap = h → own_G p e below (own_P below s rm Q) T (entryFrame m as maxL)) :
    own_M l Z y code maxL ret rm as h Q := by
  intro ws
  refine MetFree.of_bodySF (plainFor_of_name hn) hisR ?_
  intro p e s m args below meth c s₁ Bd hml0 hP hK
  obtain ⟨rfl, hZ, hh⟩ := hP
  obtain ⟨t, o, h1, h2, h3, h4⟩ := body p e s m below meth c s₁ Bd.exec Bd.bytes hml0 Bd.notSynchronized (findClass_of_methodNamed Bd.named) Bd.returns (name_of_methodNamed Bd.named Bd.method).1 hZ (Stand.of_body Bd) (by rw [← hh, Bd.state]; rfl)
  exact ⟨t, o, h1, h2, h3, h4⟩
theorem own_retI {rm : Room} {Q : Option Value → Heap → List Loc → Prop} (X : Stand p l e R s m args below meth c T locs cells slots) (hx : p.tables.exec = Jvm.exec) (hlk : meth.locks = false) (hret : meth.sig.returnType = some .int) {pc : Nat} {Ls : Array Slot} {z : Int32} {rest : List Value} (hd : decode c.code pc = .ok (.ireturn, 1)) (hc : cells ≤ rm.cells) (hs : slots ≤ rm.slots) (hQ : Q (some (.int z)) T.heap locs) :
    own_G p e below (own_P below s rm Q) T (mkF m pc Ls (.int z :: rest)) := by
  obtain ⟨fs, hr, hrun, hended, hW, hsame⟩ := X.leave (v := some (.int z)) (fun h => by rw [hret] at h; cases h) hlk
  exact ⟨_, _, retOut X hx hret rfl (Or.inl ⟨rfl, Or.inl rfl, _, rfl⟩) hd hr, hrun, hended, _, _, rfl, hQ, ⟨_, rfl⟩, hW, hsame.mono hc hs⟩
theorem own_retN {rm : Room} {Q : Option Value → Heap → List Loc → Prop} (X : Stand p l e R s m args below meth c T locs cells slots) (hx : p.tables.exec = Jvm.exec) (hlk : meth.locks = false) {t : FieldType} (hret : meth.sig.returnType = some t) (ht : t = .boolean ∨ t = .byte ∨ t = .char ∨ t = .short) {pc : Nat} {Ls : Array Slot} {z : Int32} {rest : List Value} (hd : decode c.code pc = .ok (.ireturn, 1)) (hc : cells ≤ rm.cells) (hs : slots ≤ rm.slots) (hQ : Q (some (.int (nar t z))) T.heap locs) :
    own_G p e below (own_P below s rm Q) T (mkF m pc Ls (.int z :: rest)) := by
  obtain ⟨fs, hr, hrun, hended, hW, hsame⟩ := X.leave (v := some (.int (nar t z))) (fun h => by rw [hret] at h; cases h) hlk
  exact ⟨_, _, retN X hx hret ht hd hr, hrun, hended, _, _, rfl, hQ, ⟨_, rfl⟩, hW, hsame.mono hc hs⟩
theorem own_narrow {t : FieldType} {w : Value} (hw : w.isRef = true) : narrow t w = w := by
  rcases ref_cases hw with rfl | ⟨a, rfl⟩ <;> cases t <;> rfl
theorem own_retA {rm : Room} {Q : Option Value → Heap → List Loc → Prop} (X : Stand p l e R s m args below meth c T locs cells slots) (hx : p.tables.exec = Jvm.exec) (hlk : meth.locks = false) {t : FieldType} (hret : meth.sig.returnType = some t) (ht : t.isReference = true) {pc : Nat} {Ls : Array Slot} {w : Value} {rest : List Value} (hw : w.isRef = true) (hd : decode c.code pc = .ok (.areturn, 1)) (hc : cells ≤ rm.cells) (hs : slots ≤ rm.slots) (hQ : Q (some w) T.heap locs) :
    own_G p e below (own_P below s rm Q) T (mkF m pc Ls (w :: rest)) := by
  obtain ⟨fs, hr, hrun, hended, hW, hsame⟩ := X.leave (v := some w) (fun h => by rw [hret] at h; cases h) hlk
  exact ⟨_, _, retOut X hx hret (own_narrow hw) (Or.inr (Or.inr (Or.inr (Or.inr ⟨rfl, ht, hw⟩)))) hd hr, hrun, hended, _, _, rfl, hQ, ⟨_, rfl⟩, hW, hsame.mono hc hs⟩
theorem own_ret0 {rm : Room} {Q : Option Value → Heap → List Loc → Prop} (X : Stand p l e R s m args below meth c T locs cells slots) (hx : p.tables.exec = Jvm.exec) (hlk : meth.locks = false) (hret : meth.sig.returnType = none) {pc : Nat} {Ls : Array Slot} (hd : decode c.code pc = .ok (.return_, 1)) (hc : cells ≤ rm.cells) (hs : slots ≤ rm.slots) (hQ : Q none T.heap locs) :
    own_G p e below (own_P below s rm Q) T (mkF m pc Ls []) := by
  obtain ⟨fs, hr, hrun, hended, hW, hsame⟩ := X.leave (v := none) (fun _ => rfl) hlk
  exact ⟨_, _, X.returnOut hx hret hd hr, hrun, hended, _, _, rfl, hQ, ⟨_, rfl⟩, hW, hsame.mono hc hs⟩
theorem own_callS (X : Stand p l e R s m args below meth c T locs cells slots) (hx : p.tables.exec = Jvm.exec) (hZ : Z.Warmed39 s.vm) {own : String} {index : Nat} {y : MethodName} {bytes : ByteArray} {maxL : Nat} {ret : Option FieldType} (hown : s.vm.findClass own = some m.cls)
    (w1 : (Jvm.Cond.methodLink own index y).before a0 Z = true) (w2 : (Jvm.Cond.static y).before a0 Z = true) (w3 : (Jvm.Cond.initialized y.cls).before a0 Z = true) (w4 : (Jvm.Cond.code y bytes maxL ret).before a0 Z = true) (hy : y.cls ≠ "java/lang/invoke/MethodHandle" ∧ y.cls ≠ "java/lang/invoke/VarHandle")
    {rm : Room} {argsL rest : List Value} {Q : Option Value → Heap → List Loc → Prop} (hM : own_M l Z y bytes maxL ret rm argsL.toArray h Q) (eT : T.heap = h) {g : JFrame} (hg : g.method = m) (hsize : g.locals.size = c.maxLocals) {ps : List FieldType} {r : Option FieldType} (hpd : parseMethodDescriptor y.desc = some ⟨ps, r⟩) (hpl : argsL.length = ps.length)
    (hstack : g.stack = argsL.reverse ++ rest) {W : Nat} (hW : 2 * g.monitorRoom + (rest.map fun v => v.category).sum ≤ W) (hdg : decode c.code g.pc = .ok (.invokestatic index, 3)) (hf : rm.frames + 1 ≤ R.frames) (hl : W + (maxL + 11) + rm.locals ≤ R.locals) (hc : cells + rm.cells ≤ R.cells) (hs : slots + rm.slots ≤ R.slots) :
    ∃ (T' : State) (L : List Loc) (v : Option Value), Stand p l e R s m args below meth c T' (locs ++ L) (cells + rm.cells) (slots + rm.slots) ∧ Q v T'.heap L ∧ ∀ t, Steps p.tables e below (T'.setTop { g with pc := g.pc + 3, stack := v.toList ++ rest }) t → Steps p.tables e below (T.setTop g) t := by
  obtain ⟨v, vm₁, ⟨T', L', k', n'⟩, -, X', ⟨L, hQ, e1, e2, e3⟩, st⟩ := Jvm.LawKit.callS X hx (y := y) hown (mvT hZ w1) (mvT hZ w2) (mvT hZ w3) (mvT hZ w4) hy (backOf (W := W) (hM []) hZ w4 w3 hf hl) hg hsize (argsL := argsL) (rest := rest) (lenOf hpd hpl) hstack hW hdg (fun _ _ => ⟨rfl, eT, hc, hs⟩)
  dsimp only [Pt.U, Pt.locs, Pt.cells, Pt.slots] at X' e1 e2 e3 st hQ
  subst e1 e2 e3
  exact ⟨T', L, v, X', hQ, st⟩
theorem own_callV (X : Stand p l e R s m args below meth c T locs cells slots) (hx : p.tables.exec = Jvm.exec) (hZ : Z.Warmed39 s.vm) {own C : String} {index : Nat} {y z : MethodName} {bytes : ByteArray} {maxL : Nat} {ret : Option FieldType} (hown : s.vm.findClass own = some m.cls)
    (w1 : (Jvm.Cond.methodLink own index y).before a0 Z = true) (w2 : (Jvm.Cond.declares y).before a0 Z = true) (w3 : (Jvm.Cond.selects y.cls y z).before a0 Z = true) (w3' : (Jvm.Cond.selects C y z).before a0 Z = true) (w4 : (Jvm.Cond.instanceMethod z).before a0 Z = true) (w5 : (Jvm.Cond.code z bytes maxL ret).before a0 Z = true) (w6 : (Jvm.Cond.initialized z.cls).before a0 Z = true) (hnf : NotFace s y)
    (hy : y.cls ≠ "java/lang/invoke/MethodHandle" ∧ y.cls ≠ "java/lang/invoke/VarHandle")
    {rm : Room} {a : Addr} {argsL rest : List Value} {Q : Option Value → Heap → List Loc → Prop} (hM : own_M l Z z bytes maxL ret rm (.ref a :: argsL).toArray h Q) (eT : T.heap = h) (E : Exa Z h a C) {g : JFrame} (hg : g.method = m) (hsize : g.locals.size = c.maxLocals) {ps : List FieldType} {r : Option FieldType} (hpd : parseMethodDescriptor y.desc = some ⟨ps, r⟩) (hpl : argsL.length = ps.length)
    (hstack : g.stack = argsL.reverse ++ .ref a :: rest) {W : Nat} (hW : 2 * g.monitorRoom + (rest.map fun v => v.category).sum ≤ W) (hdg : decode c.code g.pc = .ok (.invokevirtual index, 3)) (hf : rm.frames + 1 ≤ R.frames) (hl : W + (maxL + 11) + rm.locals ≤ R.locals) (hc : cells + rm.cells ≤ R.cells) (hs : slots + rm.slots ≤ R.slots) :
    ∃ (T' : State) (L : List Loc) (v : Option Value), Stand p l e R s m args below meth c T' (locs ++ L) (cells + rm.cells) (slots + rm.slots) ∧ Q v T'.heap L ∧ ∀ t, Steps p.tables e below (T'.setTop { g with pc := g.pc + 3, stack := v.toList ++ rest }) t → Steps p.tables e below (T.setTop g) t := by
  obtain ⟨cq, kq, qa, qb, qc⟩ := isOf hZ eT E
  obtain ⟨v, vm₁, ⟨T', L', k', n'⟩, -, X', ⟨L, hQ, e1, e2, e3⟩, st⟩ := X.virtualBack hx (y := y) (z := z) hown (mvT hZ w1) (mvT hZ w2) hnf (mvT hZ w3') (mvT hZ w4) hy (backOf (W := W) (hM []) hZ w5 w6 hf hl) qa qc hg hsize (Steps.refl _) (argsL := argsL) (rest := rest) (lenOf hpd hpl) hstack hW hdg (fun _ _ => ⟨rfl, eT, hc, hs⟩)
  dsimp only [Pt.U, Pt.locs, Pt.cells, Pt.slots] at X' e1 e2 e3 st hQ
  subst e1 e2 e3
  exact ⟨T', L, v, X', hQ, fun t k => st.trans k⟩
theorem own_callU (X : Stand p l e R s m args below meth c T locs cells slots) (hx : p.tables.exec = Jvm.exec) (hZ : Z.Warmed39 s.vm) {own C owner : String} {index : Nat} {y z : MethodName} {bytes : ByteArray} {maxL : Nat} {ret : Option FieldType} (hown : s.vm.findClass own = some m.cls)
    (w1 : (Jvm.Cond.methodLink own index y).before a0 Z = true) (w2 : (Jvm.Cond.sameMethod y.cls owner y.name y.desc).before a0 Z = true) (w2' : (Jvm.Cond.declares ⟨owner, y.name, y.desc⟩).before a0 Z = true) (w3 : (Jvm.Cond.selects C y z).before a0 Z = true) (w4 : (Jvm.Cond.instanceMethod z).before a0 Z = true) (w5 : (Jvm.Cond.code z bytes maxL ret).before a0 Z = true) (w6 : (Jvm.Cond.initialized z.cls).before a0 Z = true)
    (hy : owner ≠ "java/lang/invoke/MethodHandle" ∧ owner ≠ "java/lang/invoke/VarHandle")
    {rm : Room} {a : Addr} {argsL rest : List Value} {Q : Option Value → Heap → List Loc → Prop} (hM : own_M l Z z bytes maxL ret rm (.ref a :: argsL).toArray h Q) (eT : T.heap = h) (E : Exa Z h a C) {g : JFrame} (hg : g.method = m) (hsize : g.locals.size = c.maxLocals) {ps : List FieldType} {r : Option FieldType} (hpd : parseMethodDescriptor y.desc = some ⟨ps, r⟩) (hpl : argsL.length = ps.length)
    (hstack : g.stack = argsL.reverse ++ .ref a :: rest) {W : Nat} (hW : 2 * g.monitorRoom + (rest.map fun v => v.category).sum ≤ W) (hdg : decode c.code g.pc = .ok (.invokevirtual index, 3)) (hf : rm.frames + 1 ≤ R.frames) (hl : W + (maxL + 11) + rm.locals ≤ R.locals) (hc : cells + rm.cells ≤ R.cells) (hs : slots + rm.slots ≤ R.slots) :
    ∃ (T' : State) (L : List Loc) (v : Option Value), Stand p l e R s m args below meth c T' (locs ++ L) (cells + rm.cells) (slots + rm.slots) ∧ Q v T'.heap L ∧ ∀ t, Steps p.tables e below (T'.setTop { g with pc := g.pc + 3, stack := v.toList ++ rest }) t → Steps p.tables e below (T.setTop g) t := by
  obtain ⟨cq, kq, qa, qb, qc⟩ := isOf hZ eT E
  obtain ⟨v, vm₁, ⟨T', L', k', n'⟩, -, X', ⟨L, hQ, e1, e2, e3⟩, st⟩ := X.virtualBackUp hx (x := y) (y := z) hown (mvT hZ w1) (mvT hZ w2) (mvT hZ w2') hy (mvT hZ w3) (mvT hZ w4) (backOf (W := W) (hM []) hZ w5 w6 hf hl) qa qc hg hsize (Steps.refl _) (argsL := argsL) (rest := rest) (lenOf hpd hpl) hstack hW hdg (fun _ _ => ⟨rfl, eT, hc, hs⟩)
  dsimp only [Pt.U, Pt.locs, Pt.cells, Pt.slots] at X' e1 e2 e3 st hQ
  subst e1 e2 e3
  exact ⟨T', L, v, X', hQ, fun t k => st.trans k⟩
theorem own_neL {i K : Int32} {k : Int} (h : ¬ i = K) (hk : K.toInt = k) : k ≠ i.toInt := fun q => h (Int32.toInt_inj.mp (by rw [hk, q]))
abbrev own_cell (cA : ClassId) (vs : Array Value) : Cell := { cls := cA, slots := vs, vm := .none }
theorem own_in {cl : Cell} {j : Int32} {n : Nat} (hs : cl.slots.size = n) (hj : ¬ (j < 0 ∨ n ≤ j.toNatClampNeg)) : ¬ (j < 0 ∨ cl.slots.size ≤ j.toNatClampNeg) := by rw [hs]; exact hj
theorem own_ext_refl (h : Heap) : Ext h h := ⟨Nat.le_refl _, fun _ _ q => q⟩
theorem own_ext_trans {h0 h h' : Heap} (E : Ext h0 h) (E' : Ext h h') : Ext h0 h' := ⟨Nat.le_trans E.1 E'.1, fun a c q => E'.2 a c (E.2 a c q)⟩
theorem own_ext_eq {h0 h h' : Heap} (E : Ext h0 h) (q : h' = h) : Ext h0 h' := q ▸ E
theorem own_acVF {v w : Value} (q : v = w) : Jvm.Free.XT.acmp .ne v w = false := by subst q; simp [Jvm.Free.XT.acmp]
theorem own_ext_wr {h0 h h' : Heap} {a : Addr} {sl : Nat} {v : Value} (E : Ext h0 h) (W : Wr h h' a sl v) (q : h0.size ≤ a) : Ext h0 h' := by
  refine ⟨by rw [W.size]; exact E.1, fun x cx hx => ?_⟩
  obtain ⟨c', e1, -, -, -, e5, -⟩ := wr_at W (E.2 x cx hx)
  rw [← e5 (Nat.ne_of_lt (Nat.lt_of_lt_of_le (Array.getElem?_eq_some_iff.mp hx).1 q))]
  exact e1
theorem own_fld {t : Term} {a : Addr} {C n d : String} {k : Int32} (ev : t.eval args Z none [] Z = some (.ref a)) (w : (Jvm.Cond.eq (.field t C n d) (.int k)).value args Z none Z [] = some true) : Fld Z Z.heap a C n d (.int k) := by
  obtain ⟨x, y, e1, e2, k1, k2⟩ := cmp_v (Or.inl w)
  obtain rfl : y = .int k := (Option.some.inj e2).symm
  obtain ⟨z, rfl⟩ := k2
  have hz := gotT (Jvm.Cond.eq_ints e1 e2) w
  rw [fld_at ev] at e1
  rw [hz] at e1
  exact Fld.start e1
theorem own_len {t : Term} {a : Addr} {cl : Cell} {ty : FieldType} {k : Int32} (ev : t.eval args Z none [] Z = some (.ref a)) (A : Arr Z Z.heap a cl ty) (w : (Jvm.Cond.eq (.length t) (.int k)).value args Z none Z [] = some true) : cl.slots.size = k.toInt.toNat := by
  obtain ⟨x, y, e1, e2, k1, k2⟩ := cmp_v (Or.inl w)
  obtain rfl : y = .int k := (Option.some.inj e2).symm
  obtain ⟨z, rfl⟩ := k2
  have hz := gotT (Jvm.Cond.eq_ints e1 e2) w
  have hA : Z.arrayAt? a = some cl := Arr.fin (Vm.Alike.refl _) A
  by_cases hl : cl.slots.size < 2 ^ 31
  · rw [len_f ev hA hl] at e1
    have h1 : cl.slots.size.toInt32 = z := Value.int.inj (Option.some.inj e1)
    rw [← hz, ← h1, len_toInt hl]
    rfl
  · simp [Term.eval, ev, hA, hl] at e1
theorem own_elemI {t : Term} {a : Addr} {cl : Cell} {ty : FieldType} {j k : Int32} (ev : t.eval args Z none [] Z = some (.ref a)) (A : Arr Z Z.heap a cl ty) (w : (Jvm.Cond.eq (.elem t (.int j)) (.int k)).value args Z none Z [] = some true) : cl.slots[j.toNatClampNeg]? = some (.int k) := by
  obtain ⟨x, y, e1, e2, k1, k2⟩ := cmp_v (Or.inl w)
  obtain rfl : y = .int k := (Option.some.inj e2).symm
  obtain ⟨z, rfl⟩ := k2
  have hz := gotT (Jvm.Cond.eq_ints e1 e2) w
  rw [← hz]
  exact (elem_in e1 ev (Term.int_eval j) A.1).2
theorem own_elemR {t u : Term} {a b : Addr} {cl : Cell} {ty : FieldType} {j : Int32} (ev : t.eval args Z none [] Z = some (.ref a)) (A : Arr Z Z.heap a cl ty) (ev' : u.eval args Z none [] Z = some (.ref b)) (w : (Jvm.Cond.eq (.elem t (.int j)) u).value args Z none Z [] = some true) : cl.slots[j.toNatClampNeg]? = some (.ref b) := by
  obtain ⟨x, y, e1, e2, k1, k2⟩ := cmp_v (Or.inl w)
  obtain rfl : y = .ref b := (Option.some.inj (ev'.symm.trans e2)).symm
  have hz := gotT (eq_R e1 e2 k2.2 rfl) w
  rw [← hz]
  exact (elem_in e1 ev (Term.int_eval j) A.1).2
theorem own_neV {a b : Int32} (h : a ≠ b) : (Value.int a) ≠ Value.int b := fun q => h (Value.int.inj q)
theorem own_acT {a b : Addr} (h : a = b) : Jvm.Free.XT.acmp .eq (.ref a) (.ref b) = true := by subst h; simp [Jvm.Free.XT.acmp]
theorem own_acF {a b : Addr} (h : a ≠ b) : Jvm.Free.XT.acmp .eq (.ref a) (.ref b) = false := by simp [Jvm.Free.XT.acmp, h]
theorem own_acnT {a b : Addr} (h : a ≠ b) : Jvm.Free.XT.acmp .ne (.ref a) (.ref b) = true := by simp [Jvm.Free.XT.acmp, h]
theorem own_acnF {a b : Addr} (h : a = b) : Jvm.Free.XT.acmp .ne (.ref a) (.ref b) = false := by subst h; simp [Jvm.Free.XT.acmp]
theorem own_mask (x : Int32) : 0 ≤ (x &&& 2147483647).toInt := by
  have := Jvm.Kit.i32_mask x 2147483647 (k := 31) (by decide) (by decide)
  omega
theorem own_rem (y n : Int32) (h0 : 0 ≤ y.toInt) (hn : 0 < n.toInt) : 0 ≤ (y % n).toInt ∧ (y % n).toInt < n.toInt := by
  rw [Int32.toInt_mod]
  exact ⟨Int.tmod_nonneg _ h0, by
    have := Int.tmod_lt_of_pos y.toInt hn
    exact this⟩
end Own
end Jvm.Pilot.@@N@@
namespace Jvm.Pilot.@@N@@
open Jvm Jvm.ClassFile Sem Op Lib Jvm.Free Jvm.Stand Jvm.LawKit Jvm.RoadKit Bundle Jvm.Pilot.@@N@@.Jvm.D
def own_B (Z : State) (h : Heap) (a_BOOLEAN a_STRING a_CHAR16 a_UINT8 a_SINT8 a_UINT16 a_SINT16 a_UINT32 a_SINT32 a_UINT64 a_SINT64 a_REAL32 a_REAL64 a_DATETIME a_REFERENCE : Addr) : Prop := Sta Z h "com/example/quern/quern/model/CimType" "BOOLEAN" "Lcom/example/quern/quern/model/CimType;" (.ref a_BOOLEAN) ∧ Exa Z h a_BOOLEAN "com/example/quern/quern/model/CimType" ∧ Sta Z h "com/example/quern/quern/model/CimType" "STRING" "Lcom/example/quern/quern/model/CimType;" (.ref a_STRING) ∧ Exa Z h a_STRING "com/example/quern/quern/model/CimType" ∧ Sta Z h "com/example/quern/quern/model/CimType" "CHAR16" "Lcom/example/quern/quern/model/CimType;" (.ref a_CHAR16) ∧ Exa Z h a_CHAR16 "com/example/quern/quern/model/CimType" ∧ Sta Z h "com/example/quern/quern/model/CimType" "UINT8" "Lcom/example/quern/quern/model/CimType;" (.ref a_UINT8) ∧ Exa Z h a_UINT8 "com/example/quern/quern/model/CimType" ∧ Sta Z h "com/example/quern/quern/model/CimType" "SINT8" "Lcom/example/quern/quern/model/CimType;" (.ref a_SINT8) ∧ Exa Z h a_SINT8 "com/example/quern/quern/model/CimType" ∧ Sta Z h "com/example/quern/quern/model/CimType" "UINT16" "Lcom/example/quern/quern/model/CimType;" (.ref a_UINT16) ∧ Exa Z h a_UINT16 "com/example/quern/quern/model/CimType" ∧ Sta Z h "com/example/quern/quern/model/CimType" "SINT16" "Lcom/example/quern/quern/model/CimType;" (.ref a_SINT16) ∧ Exa Z h a_SINT16 "com/example/quern/quern/model/CimType" ∧ Sta Z h "com/example/quern/quern/model/CimType" "UINT32" "Lcom/example/quern/quern/model/CimType;" (.ref a_UINT32) ∧ Exa Z h a_UINT32 "com/example/quern/quern/model/CimType" ∧ Sta Z h "com/example/quern/quern/model/CimType" "SINT32" "Lcom/example/quern/quern/model/CimType;" (.ref a_SINT32) ∧ Exa Z h a_SINT32 "com/example/quern/quern/model/CimType" ∧ Sta Z h "com/example/quern/quern/model/CimType" "UINT64" "Lcom/example/quern/quern/model/CimType;" (.ref a_UINT64) ∧ Exa Z h a_UINT64 "com/example/quern/quern/model/CimType" ∧ Sta Z h "com/example/quern/quern/model/CimType" "SINT64" "Lcom/example/quern/quern/model/CimType;" (.ref a_SINT64) ∧ Exa Z h a_SINT64 "com/example/quern/quern/model/CimType" ∧ Sta Z h "com/example/quern/quern/model/CimType" "REAL32" "Lcom/example/quern/quern/model/CimType;" (.ref a_REAL32) ∧ Exa Z h a_REAL32 "com/example/quern/quern/model/CimType" ∧ Sta Z h "com/example/quern/quern/model/CimType" "REAL64" "Lcom/example/quern/quern/model/CimType;" (.ref a_REAL64) ∧ Exa Z h a_REAL64 "com/example/quern/quern/model/CimType" ∧ Sta Z h "com/example/quern/quern/model/CimType" "DATETIME" "Lcom/example/quern/quern/model/CimType;" (.ref a_DATETIME) ∧ Exa Z h a_DATETIME "com/example/quern/quern/model/CimType" ∧ Sta Z h "com/example/quern/quern/model/CimType" "REFERENCE" "Lcom/example/quern/quern/model/CimType;" (.ref a_REFERENCE) ∧ Exa Z h a_REFERENCE "com/example/quern/quern/model/CimType" ∧ Fld Z h a_BOOLEAN "java/lang/Enum" "ordinal" "I" (.int (0 : Int32)) ∧ Fld Z h a_STRING "java/lang/Enum" "ordinal" "I" (.int (1 : Int32)) ∧ Fld Z h a_CHAR16 "java/lang/Enum" "ordinal" "I" (.int (2 : Int32)) ∧ Fld Z h a_UINT8 "java/lang/Enum" "ordinal" "I" (.int (3 : Int32)) ∧ Fld Z h a_UINT16 "java/lang/Enum" "ordinal" "I" (.int (5 : Int32)) ∧ Fld Z h a_DATETIME "java/lang/Enum" "ordinal" "I" (.int (13 : Int32)) ∧ Fld Z h a_SINT16 "java/lang/Enum" "ordinal" "I" (.int (6 : Int32)) ∧ Fld Z h a_REFERENCE "java/lang/Enum" "ordinal" "I" (.int (14 : Int32)) ∧ Fld Z h a_UINT32 "java/lang/Enum" "ordinal" "I" (.int (7 : Int32)) ∧ Fld Z h a_REAL32 "java/lang/Enum" "ordinal" "I" (.int (11 : Int32)) ∧ Fld Z h a_SINT64 "java/lang/Enum" "ordinal" "I" (.int (10 : Int32)) ∧ Fld Z h a_SINT32 "java/lang/Enum" "ordinal" "I" (.int (8 : Int32)) ∧ Fld Z h a_REAL64 "java/lang/Enum" "ordinal" "I" (.int (12 : Int32)) ∧ Fld Z h a_SINT8 "java/lang/Enum" "ordinal" "I" (.int (4 : Int32)) ∧ Fld Z h a_UINT64 "java/lang/Enum" "ordinal" "I" (.int (9 : Int32))
theorem own_B_ext {Z : State} {h h' : Heap} {a_BOOLEAN a_STRING a_CHAR16 a_UINT8 a_SINT8 a_UINT16 a_SINT16 a_UINT32 a_SINT32 a_UINT64 a_SINT64 a_REAL32 a_REAL64 a_DATETIME a_REFERENCE : Addr} (E : Ext h h') (B : own_B Z h a_BOOLEAN a_STRING a_CHAR16 a_UINT8 a_SINT8 a_UINT16 a_SINT16 a_UINT32 a_SINT32 a_UINT64 a_SINT64 a_REAL32 a_REAL64 a_DATETIME a_REFERENCE) : own_B Z h' a_BOOLEAN a_STRING a_CHAR16 a_UINT8 a_SINT8 a_UINT16 a_SINT16 a_UINT32 a_SINT32 a_UINT64 a_SINT64 a_REAL32 a_REAL64 a_DATETIME a_REFERENCE := by
  obtain ⟨S_BOOLEAN, E_BOOLEAN, S_STRING, E_STRING, S_CHAR16, E_CHAR16, S_UINT8, E_UINT8, S_SINT8, E_SINT8, S_UINT16, E_UINT16, S_SINT16, E_SINT16, S_UINT32, E_UINT32, S_SINT32, E_SINT32, S_UINT64, E_UINT64, S_SINT64, E_SINT64, S_REAL32, E_REAL32, S_REAL64, E_REAL64, S_DATETIME, E_DATETIME, S_REFERENCE, E_REFERENCE, F_BOOLEAN_ordinal, F_STRING_ordinal, F_CHAR16_ordinal, F_UINT8_ordinal, F_UINT16_ordinal, F_DATETIME_ordinal, F_SINT16_ordinal, F_REFERENCE_ordinal, F_UINT32_ordinal, F_REAL32_ordinal, F_SINT64_ordinal, F_SINT32_ordinal, F_REAL64_ordinal, F_SINT8_ordinal, F_UINT64_ordinal⟩ := B
  exact ⟨S_BOOLEAN.ext E, E_BOOLEAN.ext E, S_STRING.ext E, E_STRING.ext E, S_CHAR16.ext E, E_CHAR16.ext E, S_UINT8.ext E, E_UINT8.ext E, S_SINT8.ext E, E_SINT8.ext E, S_UINT16.ext E, E_UINT16.ext E, S_SINT16.ext E, E_SINT16.ext E, S_UINT32.ext E, E_UINT32.ext E, S_SINT32.ext E, E_SINT32.ext E, S_UINT64.ext E, E_UINT64.ext E, S_SINT64.ext E, E_SINT64.ext E, S_REAL32.ext E, E_REAL32.ext E, S_REAL64.ext E, E_REAL64.ext E, S_DATETIME.ext E, E_DATETIME.ext E, S_REFERENCE.ext E, E_REFERENCE.ext E, F_BOOLEAN_ordinal.ext E, F_STRING_ordinal.ext E, F_CHAR16_ordinal.ext E, F_UINT8_ordinal.ext E, F_UINT16_ordinal.ext E, F_DATETIME_ordinal.ext E, F_SINT16_ordinal.ext E, F_REFERENCE_ordinal.ext E, F_UINT32_ordinal.ext E, F_REAL32_ordinal.ext E, F_SINT64_ordinal.ext E, F_SINT32_ordinal.ext E, F_REAL64_ordinal.ext E, F_SINT8_ordinal.ext E, F_UINT64_ordinal.ext E⟩
theorem own_l15 (z : Int32) (h0 : 0 ≤ z.toInt) (h1 : z.toInt ≤ 14) : z = (0 : Int32) ∨ z = (1 : Int32) ∨ z = (2 : Int32) ∨ z = (3 : Int32) ∨ z = (4 : Int32) ∨ z = (5 : Int32) ∨ z = (6 : Int32) ∨ z = (7 : Int32) ∨ z = (8 : Int32) ∨ z = (9 : Int32) ∨ z = (10 : Int32) ∨ z = (11 : Int32) ∨ z = (12 : Int32) ∨ z = (13 : Int32) ∨ z = (14 : Int32) := by
  simp only [← Int32.toInt_inj]
  change z.toInt = 0 ∨ z.toInt = 1 ∨ z.toInt = 2 ∨ z.toInt = 3 ∨ z.toInt = 4 ∨ z.toInt = 5 ∨ z.toInt = 6 ∨ z.toInt = 7 ∨ z.toInt = 8 ∨ z.toInt = 9 ∨ z.toInt = 10 ∨ z.toInt = 11 ∨ z.toInt = 12 ∨ z.toInt = 13 ∨ z.toInt = 14
  omega
def own_isText (a_BOOLEAN a_STRING a_CHAR16 a_UINT8 a_SINT8 a_UINT16 a_SINT16 a_UINT32 a_SINT32 a_UINT64 a_SINT64 a_REAL32 a_REAL64 a_DATETIME a_REFERENCE : Addr) (a1 : Addr) : Int32 := (if a1 = a_STRING then (nar .boolean (1 : Int32)) else (if a1 = a_CHAR16 then (nar .boolean (1 : Int32)) else (nar .boolean (0 : Int32))))
theorem d1_0 : decode prog_44_method_9_code 0 = .ok (.aload_n 0, 1) := by decide +kernel
theorem d1_1 : decode prog_44_method_9_code 1 = .ok (.getstatic 7, 3) := by decide +kernel
theorem d1_4 : decode prog_44_method_9_code 4 = .ok (.if_acmp .eq 10, 3) := by decide +kernel
theorem d1_7 : decode prog_44_method_9_code 7 = .ok (.aload_n 0, 1) := by decide +kernel
theorem d1_8 : decode prog_44_method_9_code 8 = .ok (.getstatic 10, 3) := by decide +kernel
theorem d1_11 : decode prog_44_method_9_code 11 = .ok (.if_acmp .ne 7, 3) := by decide +kernel
theorem d1_14 : decode prog_44_method_9_code 14 = .ok (.iconst 1, 1) := by decide +kernel
theorem d1_15 : decode prog_44_method_9_code 15 = .ok (.goto 4, 3) := by decide +kernel
theorem d1_18 : decode prog_44_method_9_code 18 = .ok (.iconst 0, 1) := by decide +kernel
theorem d1_19 : decode prog_44_method_9_code 19 = .ok (.ireturn, 1) := by decide +kernel
theorem pn_1 : plainName "com/example/quern/quern/model/CimType" = true := by first | (simp [plainName, overriddenIn]; done) | decide +kernel
set_option maxRecDepth 65536 in
set_option maxHeartbeats 40000000 in
theorem c_isText (l : Launch) (Z : State) (a0 : Array Value) (hw : ∀ d ∈ tables_1, d.before a0 Z = true) (a_BOOLEAN a_STRING a_CHAR16 a_UINT8 a_SINT8 a_UINT16 a_SINT16 a_UINT32 a_SINT32 a_UINT64 a_SINT64 a_REAL32 a_REAL64 a_DATETIME a_REFERENCE : Addr) (a1 : Addr) (h0 : Heap) (B : own_B Z h0 a_BOOLEAN a_STRING a_CHAR16 a_UINT8 a_SINT8 a_UINT16 a_SINT16 a_UINT32 a_SINT32 a_UINT64 a_SINT64 a_REAL32 a_REAL64 a_DATETIME a_REFERENCE) :
    own_M l Z (⟨"com/example/quern/quern/model/CimType", "isText", "()Z"⟩ : MethodName) prog_44_method_9_code 1 (some .boolean) ⟨0, 0, 0, 0⟩ #[.ref a1] h0 (fun v h L => v = some (.int (own_isText a_BOOLEAN a_STRING a_CHAR16 a_UINT8 a_SINT8 a_UINT16 a_SINT16 a_UINT32 a_SINT32 a_UINT64 a_SINT64 a_REAL32 a_REAL64 a_DATETIME a_REFERENCE a1)) ∧ L = [] ∧ h = h0) := by
  refine own_body pn_1 ?_
  intro p e s m below meth c T0 hx hby hml hlk hown hret hnm hZ X0 e0
  replace hown : s.vm.findClass "com/example/quern/quern/model/CimType" = some m.cls := hown
  replace hml : c.maxLocals = 1 := hml
  obtain ⟨S_BOOLEAN, E_BOOLEAN, S_STRING, E_STRING, S_CHAR16, E_CHAR16, S_UINT8, E_UINT8, S_SINT8, E_SINT8, S_UINT16, E_UINT16, S_SINT16, E_SINT16, S_UINT32, E_UINT32, S_SINT32, E_SINT32, S_UINT64, E_UINT64, S_SINT64, E_SINT64, S_REAL32, E_REAL32, S_REAL64, E_REAL64, S_DATETIME, E_DATETIME, S_REFERENCE, E_REFERENCE, F_BOOLEAN_ordinal, F_STRING_ordinal, F_CHAR16_ordinal, F_UINT8_ordinal, F_UINT16_ordinal, F_DATETIME_ordinal, F_SINT16_ordinal, F_REFERENCE_ordinal, F_UINT32_ordinal, F_REAL32_ordinal, F_SINT64_ordinal, F_SINT32_ordinal, F_REAL64_ordinal, F_SINT8_ordinal, F_UINT64_ordinal⟩ := id B
  have ef : entryFrame m #[.ref a1] 1 = (mkF m 0 #[.val (.ref a1)] []) := by first | (simp [entryFrame, mkF, argsToLocals, Value.category]; done) | rfl
  rw [ef]
  refine own_go (fun t k => XS.aloadN X0.here hx rfl (hb hby d1_0) rfl rfl k) ?_
  show own_G p e below _ T0 (mkF m 1 #[.val (.ref a1)] [(.ref a1)])
  obtain ⟨T1, X1, e1, st1⟩ := getS X0 hx hZ hown (host := "") (hw _ (List.mem_of_getElem? (i := 40) rfl)) Via.refl e0 S_STRING (g := (mkF m 1 #[.val (.ref a1)] [(.ref a1)])) rfl (hb hby d1_1)
  refine own_go st1 ?_
  show own_G p e below _ T1 (mkF m 4 #[.val (.ref a1)] [(.ref a_STRING), (.ref a1)])
  by_cases hc2 : a1 = a_STRING
  ·
    refine own_go (fun t k => Jvm.Free.XT.acmpYes X1.here hx rfl (pc0 := 4) (pc' := 14) rfl (hb hby d1_4) rfl rfl rfl (own_acT hc2) (by decide) (by decide) k) ?_
    show own_G p e below _ T1 (mkF m 14 #[.val (.ref a1)] [])
    refine own_go (fun t k => XS.iconst X1.here hx rfl (hb hby d1_14) k) ?_
    show own_G p e below _ T1 (mkF m 15 #[.val (.ref a1)] [(.int (1 : Int32))])
    refine own_go (fun t k => XS.goto X1.here hx rfl (pc0 := 15) (pc' := 19) rfl (hb hby d1_15) (by decide) (by decide) k) ?_
    show own_G p e below _ T1 (mkF m 19 #[.val (.ref a1)] [(.int (1 : Int32))])
    exact own_retN X1 hx hlk hret (by simp) (hb hby d1_19) (by decide) (by decide) ⟨congrArg some (congrArg Value.int (Eq.symm (show (own_isText a_BOOLEAN a_STRING a_CHAR16 a_UINT8 a_SINT8 a_UINT16 a_SINT16 a_UINT32 a_SINT32 a_UINT64 a_SINT64 a_REAL32 a_REAL64 a_DATETIME a_REFERENCE a1) = (nar .boolean (1 : Int32)) from (by unfold own_isText; rw [if_pos hc2])))), rfl, e1⟩
  ·
    refine own_go (fun t k => Jvm.Free.XT.acmpNo X1.here hx rfl (hb hby d1_4) rfl rfl rfl (own_acF hc2) k) ?_
    show own_G p e below _ T1 (mkF m 7 #[.val (.ref a1)] [])
    refine own_go (fun t k => XS.aloadN X1.here hx rfl (hb hby d1_7) rfl rfl k) ?_
    show own_G p e below _ T1 (mkF m 8 #[.val (.ref a1)] [(.ref a1)])
    obtain ⟨T3, X3, e3, st3⟩ := getS X1 hx hZ hown (host := "") (hw _ (List.mem_of_getElem? (i := 41) rfl)) Via.refl e1 S_CHAR16 (g := (mkF m 8 #[.val (.ref a1)] [(.ref a1)])) rfl (hb hby d1_8)
    refine own_go st3 ?_
    show own_G p e below _ T3 (mkF m 11 #[.val (.ref a1)] [(.ref a_CHAR16), (.ref a1)])
    by_cases hc4 : a1 = a_CHAR16
    ·
      refine own_go (fun t k => Jvm.Free.XT.acmpNo X3.here hx rfl (hb hby d1_11) rfl rfl rfl (own_acnF hc4) k) ?_
      show own_G p e below _ T3 (mkF m 14 #[.val (.ref a1)] [])
      refine own_go (fun t k => XS.iconst X3.here hx rfl (hb hby d1_14) k) ?_
      show own_G p e below _ T3 (mkF m 15 #[.val (.ref a1)] [(.int (1 : Int32))])
      refine own_go (fun t k => XS.goto X3.here hx rfl (pc0 := 15) (pc' := 19) rfl (hb hby d1_15) (by decide) (by decide) k) ?_
      show own_G p e below _ T3 (mkF m 19 #[.val (.ref a1)] [(.int (1 : Int32))])
      exact own_retN X3 hx hlk hret (by simp) (hb hby d1_19) (by decide) (by decide) ⟨congrArg some (congrArg Value.int (Eq.symm (show (own_isText a_BOOLEAN a_STRING a_CHAR16 a_UINT8 a_SINT8 a_UINT16 a_SINT16 a_UINT32 a_SINT32 a_UINT64 a_SINT64 a_REAL32 a_REAL64 a_DATETIME a_REFERENCE a1) = (nar .boolean (1 : Int32)) from (by unfold own_isText; rw [if_neg hc2, if_pos hc4])))), rfl, e3⟩
    ·
      refine own_go (fun t k => Jvm.Free.XT.acmpYes X3.here hx rfl (pc0 := 11) (pc' := 18) rfl (hb hby d1_11) rfl rfl rfl (own_acnT hc4) (by decide) (by decide) k) ?_
      show own_G p e below _ T3 (mkF m 18 #[.val (.ref a1)] [])
      refine own_go (fun t k => XS.iconst X3.here hx rfl (hb hby d1_18) k) ?_
      show own_G p e below _ T3 (mkF m 19 #[.val (.ref a1)] [(.int (0 : Int32))])
      exact own_retN X3 hx hlk hret (by simp) (hb hby d1_19) (by decide) (by decide) ⟨congrArg some (congrArg Value.int (Eq.symm (show (own_isText a_BOOLEAN a_STRING a_CHAR16 a_UINT8 a_SINT8 a_UINT16 a_SINT16 a_UINT32 a_SINT32 a_UINT64 a_SINT64 a_REAL32 a_REAL64 a_DATETIME a_REFERENCE a1) = (nar .boolean (0 : Int32)) from (by unfold own_isText; rw [if_neg hc2, if_neg hc4])))), rfl, e3⟩
theorem pn_0 : plainName "com/example/quern/quern/model/CimTypeIsTextPinLaw" = true := by first | (simp [plainName, overriddenIn]; done) | decide +kernel
set_option maxRecDepth 65536 in
set_option maxHeartbeats 40000000 in
theorem rm0 (l : Launch) (Z : State) (a0 : Array Value) (hw : ∀ d ∈ tables_1, d.before a0 Z = true) (i0 : Int32) (a_BOOLEAN a_STRING a_CHAR16 a_UINT8 a_SINT8 a_UINT16 a_SINT16 a_UINT32 a_SINT32 a_UINT64 a_SINT64 a_REAL32 a_REAL64 a_DATETIME a_REFERENCE : Addr) (h0 : Heap) (n0 : Nat) (Z0 : n0 ≤ h0.size) (B : own_B Z h0 a_BOOLEAN a_STRING a_CHAR16 a_UINT8 a_SINT8 a_UINT16 a_SINT16 a_UINT32 a_SINT32 a_UINT64 a_SINT64 a_REAL32 a_REAL64 a_DATETIME a_REFERENCE) :
    own_M l Z x code maxLocals ret room_1 #[.int i0] h0 (fun v h L => v = some (.int 1) ∧ Fr n0 L) := by
  refine own_body pn_0 ?_
  intro p e s m below meth c T0 hx hby hml hlk hown hret hnm hZ X0 e0
  replace hown : s.vm.findClass "com/example/quern/quern/model/CimTypeIsTextPinLaw" = some m.cls := hown
  replace hml : c.maxLocals = 5 := hml
  replace hret : meth.sig.returnType = some .boolean := hret
  obtain ⟨S_BOOLEAN, E_BOOLEAN, S_STRING, E_STRING, S_CHAR16, E_CHAR16, S_UINT8, E_UINT8, S_SINT8, E_SINT8, S_UINT16, E_UINT16, S_SINT16, E_SINT16, S_UINT32, E_UINT32, S_SINT32, E_SINT32, S_UINT64, E_UINT64, S_SINT64, E_SINT64, S_REAL32, E_REAL32, S_REAL64, E_REAL64, S_DATETIME, E_DATETIME, S_REFERENCE, E_REFERENCE, F_BOOLEAN_ordinal, F_STRING_ordinal, F_CHAR16_ordinal, F_UINT8_ordinal, F_UINT16_ordinal, F_DATETIME_ordinal, F_SINT16_ordinal, F_REFERENCE_ordinal, F_UINT32_ordinal, F_REAL32_ordinal, F_SINT64_ordinal, F_SINT32_ordinal, F_REAL64_ordinal, F_SINT8_ordinal, F_UINT64_ordinal⟩ := id B
  have hk := own_l15 ((i0 &&& (2147483647 : Int32)) % (15 : Int32)) (own_rem _ 15 (own_mask i0) (by decide)).1 (Int.lt_add_one_iff.mp (own_rem _ 15 (own_mask i0) (by decide)).2)
  have N0 := Fr.nil n0
  have ef : entryFrame m #[.int i0] maxLocals = (mkF m 0 #[.val (.int i0), .unset, .unset, .unset, .unset] []) := by first | (simp [entryFrame, mkF, argsToLocals, Value.category, maxLocals]; done) | rfl
  rw [ef]
  refine own_go (fun t k => XS.iloadN X0.here hx rfl (hb hby at_0) rfl k) ?_
  show own_G p e below _ T0 (mkF m 1 #[.val (.int i0), .unset, .unset, .unset, .unset] [(.int i0)])
  refine own_go (X0.ldcInt hx hown (mvT hZ (hw _ (List.mem_of_getElem? (i := 0) rfl))) (g := (mkF m 1 #[.val (.int i0), .unset, .unset, .unset, .unset] [(.int i0)])) rfl (hb hby at_1)) ?_
  show own_G p e below _ T0 (mkF m 3 #[.val (.int i0), .unset, .unset, .unset, .unset] [(.int (2147483647 : Int32)), (.int i0)])
  refine own_go (fun t k => XS.iand X0.here hx rfl (hb hby at_3) rfl k) ?_
  show own_G p e below _ T0 (mkF m 4 #[.val (.int i0), .unset, .unset, .unset, .unset] [(.int (i0 &&& (2147483647 : Int32)))])
  refine own_go (fun t k => XS.bipush X0.here hx rfl (hb hby at_4) k) ?_
  show own_G p e below _ T0 (mkF m 6 #[.val (.int i0), .unset, .unset, .unset, .unset] [(.int (15 : Int32)), (.int (i0 &&& (2147483647 : Int32)))])
  refine own_go (fun t k => iremM X0 hx rfl (hb hby at_6) rfl (by decide) k) ?_
  show own_G p e below _ T0 (mkF m 7 #[.val (.int i0), .unset, .unset, .unset, .unset] [(.int ((i0 &&& (2147483647 : Int32)) % (15 : Int32)))])
  refine own_go (fun t k => XS.istoreN X0.here hx rfl (hb hby at_7) rfl (l' := #[.val (.int i0), .val (.int ((i0 &&& (2147483647 : Int32)) % (15 : Int32))), .unset, .unset, .unset]) rfl k) ?_
  show own_G p e below _ T0 (mkF m 8 #[.val (.int i0), .val (.int ((i0 &&& (2147483647 : Int32)) % (15 : Int32))), .unset, .unset, .unset] [])
  refine own_go (fun t k => XS.bipush X0.here hx rfl (hb hby at_8) k) ?_
  show own_G p e below _ T0 (mkF m 10 #[.val (.int i0), .val (.int ((i0 &&& (2147483647 : Int32)) % (15 : Int32))), .unset, .unset, .unset] [(.int (15 : Int32))])
  obtain ⟨T1, h1, c1, X1, e1, E1, A1, O1, st1⟩ := newR X0 hx hZ hown (hw _ (List.mem_of_getElem? (i := 1) rfl)) (hw _ (List.mem_of_getElem? (i := 2) rfl)) e0 (g := (mkF m 10 #[.val (.int i0), .val (.int ((i0 &&& (2147483647 : Int32)) % (15 : Int32))), .unset, .unset, .unset] [(.int (15 : Int32))])) rfl (hb hby at_10) rfl (by decide) (cap := 15) (by decide) (by decide) (by decide) (by decide)
  obtain ⟨a1, g1⟩ : ∃ z, z = h0.size := ⟨_, rfl⟩
  rw [← g1] at A1 st1
  replace A1 : Arr Z h1 a1 (own_cell c1 #[.null, .null, .null, .null, .null, .null, .null, .null, .null, .null, .null, .null, .null, .null, .null]) (.object "com/example/quern/quern/model/CimType") := A1
  have x1 : Ext h0 h1 := E1
  have j1 : h0.size ≤ a1 := Nat.le_of_eq g1.symm
  refine own_go st1 ?_
  show own_G p e below _ T1 (mkF m 13 #[.val (.int i0), .val (.int ((i0 &&& (2147483647 : Int32)) % (15 : Int32))), .unset, .unset, .unset] [(.ref a1)])
  refine own_go (fun t k => XS.dup X1.here hx rfl (hb hby at_13) rfl rfl k) ?_
  show own_G p e below _ T1 (mkF m 14 #[.val (.int i0), .val (.int ((i0 &&& (2147483647 : Int32)) % (15 : Int32))), .unset, .unset, .unset] [(.ref a1), (.ref a1)])
  refine own_go (fun t k => XS.iconst X1.here hx rfl (hb hby at_14) k) ?_
  show own_G p e below _ T1 (mkF m 15 #[.val (.int i0), .val (.int ((i0 &&& (2147483647 : Int32)) % (15 : Int32))), .unset, .unset, .unset] [(.int (0 : Int32)), (.ref a1), (.ref a1)])
  obtain ⟨T2, X2, e2, st2⟩ := getS X1 hx hZ hown (host := "") (hw _ (List.mem_of_getElem? (i := 3) rfl)) Via.refl e1 (S_BOOLEAN.ext x1) (g := (mkF m 15 #[.val (.int i0), .val (.int ((i0 &&& (2147483647 : Int32)) % (15 : Int32))), .unset, .unset, .unset] [(.int (0 : Int32)), (.ref a1), (.ref a1)])) rfl (hb hby at_15)
  refine own_go st2 ?_
  show own_G p e below _ T2 (mkF m 18 #[.val (.int i0), .val (.int ((i0 &&& (2147483647 : Int32)) % (15 : Int32))), .unset, .unset, .unset] [(.ref a_BOOLEAN), (.int (0 : Int32)), (.ref a1), (.ref a1)])
  obtain ⟨T3, h3, X3, e3, W3, st3⟩ := stR X2 hx hZ e2 A1 (j := (0 : Int32)) (own_in (n := 15) rfl (by decide)) rfl (Sto.of A1 O1 (Ins.self (E_BOOLEAN.ext x1))) (g := (mkF m 18 #[.val (.int i0), .val (.int ((i0 &&& (2147483647 : Int32)) % (15 : Int32))), .unset, .unset, .unset] [(.ref a_BOOLEAN), (.int (0 : Int32)), (.ref a1), (.ref a1)])) rfl rfl (hb hby at_18)
  have A3 : Arr Z h3 a1 (own_cell c1 #[(.ref a_BOOLEAN), .null, .null, .null, .null, .null, .null, .null, .null, .null, .null, .null, .null, .null, .null]) (.object "com/example/quern/quern/model/CimType") := A1.same W3
  have x3 : Ext h0 h3 := own_ext_wr x1 W3 j1
  have N3 := Fr.snoc X3 N0 (Nat.le_trans Z0 j1)
  refine own_go st3 ?_
  show own_G p e below _ T3 (mkF m 19 #[.val (.int i0), .val (.int ((i0 &&& (2147483647 : Int32)) % (15 : Int32))), .unset, .unset, .unset] [(.ref a1)])
  refine own_go (fun t k => XS.dup X3.here hx rfl (hb hby at_19) rfl rfl k) ?_
  show own_G p e below _ T3 (mkF m 20 #[.val (.int i0), .val (.int ((i0 &&& (2147483647 : Int32)) % (15 : Int32))), .unset, .unset, .unset] [(.ref a1), (.ref a1)])
  refine own_go (fun t k => XS.iconst X3.here hx rfl (hb hby at_20) k) ?_
  show own_G p e below _ T3 (mkF m 21 #[.val (.int i0), .val (.int ((i0 &&& (2147483647 : Int32)) % (15 : Int32))), .unset, .unset, .unset] [(.int (1 : Int32)), (.ref a1), (.ref a1)])
  obtain ⟨T4, X4, e4, st4⟩ := getS X3 hx hZ hown (host := "") (hw _ (List.mem_of_getElem? (i := 7) rfl)) Via.refl e3 (S_STRING.ext x3) (g := (mkF m 21 #[.val (.int i0), .val (.int ((i0 &&& (2147483647 : Int32)) % (15 : Int32))), .unset, .unset, .unset] [(.int (1 : Int32)), (.ref a1), (.ref a1)])) rfl (hb hby at_21)
  refine own_go st4 ?_
  show own_G p e below _ T4 (mkF m 24 #[.val (.int i0), .val (.int ((i0 &&& (2147483647 : Int32)) % (15 : Int32))), .unset, .unset, .unset] [(.ref a_STRING), (.int (1 : Int32)), (.ref a1), (.ref a1)])
  obtain ⟨T5, h5, X5, e5, W5, st5⟩ := stR X4 hx hZ e4 A3 (j := (1 : Int32)) (own_in (n := 15) rfl (by decide)) rfl (Sto.of A3 O1 (Ins.self (E_STRING.ext x3))) (g := (mkF m 24 #[.val (.int i0), .val (.int ((i0 &&& (2147483647 : Int32)) % (15 : Int32))), .unset, .unset, .unset] [(.ref a_STRING), (.int (1 : Int32)), (.ref a1), (.ref a1)])) rfl rfl (hb hby at_24)
  have A5 : Arr Z h5 a1 (own_cell c1 #[(.ref a_BOOLEAN), (.ref a_STRING), .null, .null, .null, .null, .null, .null, .null, .null, .null, .null, .null, .null, .null]) (.object "com/example/quern/quern/model/CimType") := A3.same W5
  have x5 : Ext h0 h5 := own_ext_wr x3 W5 j1
  have N5 := Fr.snoc X5 N3 (Nat.le_trans Z0 j1)
  refine own_go st5 ?_
  show own_G p e below _ T5 (mkF m 25 #[.val (.int i0), .val (.int ((i0 &&& (2147483647 : Int32)) % (15 : Int32))), .unset, .unset, .unset] [(.ref a1)])
  refine own_go (fun t k => XS.dup X5.here hx rfl (hb hby at_25) rfl rfl k) ?_
  show own_G p e below _ T5 (mkF m 26 #[.val (.int i0), .val (.int ((i0 &&& (2147483647 : Int32)) % (15 : Int32))), .unset, .unset, .unset] [(.ref a1), (.ref a1)])
  refine own_go (fun t k => XS.iconst X5.here hx rfl (hb hby at_26) k) ?_
  show own_G p e below _ T5 (mkF m 27 #[.val (.int i0), .val (.int ((i0 &&& (2147483647 : Int32)) % (15 : Int32))), .unset, .unset, .unset] [(.int (2 : Int32)), (.ref a1), (.ref a1)])
  obtain ⟨T6, X6, e6, st6⟩ := getS X5 hx hZ hown (host := "") (hw _ (List.mem_of_getElem? (i := 9) rfl)) Via.refl e5 (S_CHAR16.ext x5) (g := (mkF m 27 #[.val (.int i0), .val (.int ((i0 &&& (2147483647 : Int32)) % (15 : Int32))), .unset, .unset, .unset] [(.int (2 : Int32)), (.ref a1), (.ref a1)])) rfl (hb hby at_27)
  refine own_go st6 ?_
  show own_G p e below _ T6 (mkF m 30 #[.val (.int i0), .val (.int ((i0 &&& (2147483647 : Int32)) % (15 : Int32))), .unset, .unset, .unset] [(.ref a_CHAR16), (.int (2 : Int32)), (.ref a1), (.ref a1)])
  obtain ⟨T7, h7, X7, e7, W7, st7⟩ := stR X6 hx hZ e6 A5 (j := (2 : Int32)) (own_in (n := 15) rfl (by decide)) rfl (Sto.of A5 O1 (Ins.self (E_CHAR16.ext x5))) (g := (mkF m 30 #[.val (.int i0), .val (.int ((i0 &&& (2147483647 : Int32)) % (15 : Int32))), .unset, .unset, .unset] [(.ref a_CHAR16), (.int (2 : Int32)), (.ref a1), (.ref a1)])) rfl rfl (hb hby at_30)
  have A7 : Arr Z h7 a1 (own_cell c1 #[(.ref a_BOOLEAN), (.ref a_STRING), (.ref a_CHAR16), .null, .null, .null, .null, .null, .null, .null, .null, .null, .null, .null, .null]) (.object "com/example/quern/quern/model/CimType") := A5.same W7
  have x7 : Ext h0 h7 := own_ext_wr x5 W7 j1
  have N7 := Fr.snoc X7 N5 (Nat.le_trans Z0 j1)
  refine own_go st7 ?_
  show own_G p e below _ T7 (mkF m 31 #[.val (.int i0), .val (.int ((i0 &&& (2147483647 : Int32)) % (15 : Int32))), .unset, .unset, .unset] [(.ref a1)])
  refine own_go (fun t k => XS.dup X7.here hx rfl (hb hby at_31) rfl rfl k) ?_
  show own_G p e below _ T7 (mkF m 32 #[.val (.int i0), .val (.int ((i0 &&& (2147483647 : Int32)) % (15 : Int32))), .unset, .unset, .unset] [(.ref a1), (.ref a1)])
  refine own_go (fun t k => XS.iconst X7.here hx rfl (hb hby at_32) k) ?_
  show own_G p e below _ T7 (mkF m 33 #[.val (.int i0), .val (.int ((i0 &&& (2147483647 : Int32)) % (15 : Int32))), .unset, .unset, .unset] [(.int (3 : Int32)), (.ref a1), (.ref a1)])
  obtain ⟨T8, X8, e8, st8⟩ := getS X7 hx hZ hown (host := "") (hw _ (List.mem_of_getElem? (i := 11) rfl)) Via.refl e7 (S_UINT8.ext x7) (g := (mkF m 33 #[.val (.int i0), .val (.int ((i0 &&& (2147483647 : Int32)) % (15 : Int32))), .unset, .unset, .unset] [(.int (3 : Int32)), (.ref a1), (.ref a1)])) rfl (hb hby at_33)
  refine own_go st8 ?_
  show own_G p e below _ T8 (mkF m 36 #[.val (.int i0), .val (.int ((i0 &&& (2147483647 : Int32)) % (15 : Int32))), .unset, .unset, .unset] [(.ref a_UINT8), (.int (3 : Int32)), (.ref a1), (.ref a1)])
  obtain ⟨T9, h9, X9, e9, W9, st9⟩ := stR X8 hx hZ e8 A7 (j := (3 : Int32)) (own_in (n := 15) rfl (by decide)) rfl (Sto.of A7 O1 (Ins.self (E_UINT8.ext x7))) (g := (mkF m 36 #[.val (.int i0), .val (.int ((i0 &&& (2147483647 : Int32)) % (15 : Int32))), .unset, .unset, .unset] [(.ref a_UINT8), (.int (3 : Int32)), (.ref a1), (.ref a1)])) rfl rfl (hb hby at_36)
  have A9 : Arr Z h9 a1 (own_cell c1 #[(.ref a_BOOLEAN), (.ref a_STRING), (.ref a_CHAR16), (.ref a_UINT8), .null, .null, .null, .null, .null, .null, .null, .null, .null, .null, .null]) (.object "com/example/quern/quern/model/CimType") := A7.same W9
  have x9 : Ext h0 h9 := own_ext_wr x7 W9 j1
  have N9 := Fr.snoc X9 N7 (Nat.le_trans Z0 j1)
  refine own_go st9 ?_
  show own_G p e below _ T9 (mkF m 37 #[.val (.int i0), .val (.int ((i0 &&& (2147483647 : Int32)) % (15 : Int32))), .unset, .unset, .unset] [(.ref a1)])
  refine own_go (fun t k => XS.dup X9.here hx rfl (hb hby at_37) rfl rfl k) ?_
  show own_G p e below _ T9 (mkF m 38 #[.val (.int i0), .val (.int ((i0 &&& (2147483647 : Int32)) % (15 : Int32))), .unset, .unset, .unset] [(.ref a1), (.ref a1)])
  refine own_go (fun t k => XS.iconst X9.here hx rfl (hb hby at_38) k) ?_
  show own_G p e below _ T9 (mkF m 39 #[.val (.int i0), .val (.int ((i0 &&& (2147483647 : Int32)) % (15 : Int32))), .unset, .unset, .unset] [(.int (4 : Int32)), (.ref a1), (.ref a1)])
  obtain ⟨T10, X10, e10, st10⟩ := getS X9 hx hZ hown (host := "") (hw _ (List.mem_of_getElem? (i := 13) rfl)) Via.refl e9 (S_SINT8.ext x9) (g := (mkF m 39 #[.val (.int i0), .val (.int ((i0 &&& (2147483647 : Int32)) % (15 : Int32))), .unset, .unset, .unset] [(.int (4 : Int32)), (.ref a1), (.ref a1)])) rfl (hb hby at_39)
  refine own_go st10 ?_
  show own_G p e below _ T10 (mkF m 42 #[.val (.int i0), .val (.int ((i0 &&& (2147483647 : Int32)) % (15 : Int32))), .unset, .unset, .unset] [(.ref a_SINT8), (.int (4 : Int32)), (.ref a1), (.ref a1)])
  obtain ⟨T11, h11, X11, e11, W11, st11⟩ := stR X10 hx hZ e10 A9 (j := (4 : Int32)) (own_in (n := 15) rfl (by decide)) rfl (Sto.of A9 O1 (Ins.self (E_SINT8.ext x9))) (g := (mkF m 42 #[.val (.int i0), .val (.int ((i0 &&& (2147483647 : Int32)) % (15 : Int32))), .unset, .unset, .unset] [(.ref a_SINT8), (.int (4 : Int32)), (.ref a1), (.ref a1)])) rfl rfl (hb hby at_42)
  have A11 : Arr Z h11 a1 (own_cell c1 #[(.ref a_BOOLEAN), (.ref a_STRING), (.ref a_CHAR16), (.ref a_UINT8), (.ref a_SINT8), .null, .null, .null, .null, .null, .null, .null, .null, .null, .null]) (.object "com/example/quern/quern/model/CimType") := A9.same W11
  have x11 : Ext h0 h11 := own_ext_wr x9 W11 j1
  have N11 := Fr.snoc X11 N9 (Nat.le_trans Z0 j1)
  refine own_go st11 ?_
  show own_G p e below _ T11 (mkF m 43 #[.val (.int i0), .val (.int ((i0 &&& (2147483647 : Int32)) % (15 : Int32))), .unset, .unset, .unset] [(.ref a1)])
  refine own_go (fun t k => XS.dup X11.here hx rfl (hb hby at_43) rfl rfl k) ?_
  show own_G p e below _ T11 (mkF m 44 #[.val (.int i0), .val (.int ((i0 &&& (2147483647 : Int32)) % (15 : Int32))), .unset, .unset, .unset] [(.ref a1), (.ref a1)])
  refine own_go (fun t k => XS.iconst X11.here hx rfl (hb hby at_44) k) ?_
  show own_G p e below _ T11 (mkF m 45 #[.val (.int i0), .val (.int ((i0 &&& (2147483647 : Int32)) % (15 : Int32))), .unset, .unset, .unset] [(.int (5 : Int32)), (.ref a1), (.ref a1)])
  obtain ⟨T12, X12, e12, st12⟩ := getS X11 hx hZ hown (host := "") (hw _ (List.mem_of_getElem? (i := 15) rfl)) Via.refl e11 (S_UINT16.ext x11) (g := (mkF m 45 #[.val (.int i0), .val (.int ((i0 &&& (2147483647 : Int32)) % (15 : Int32))), .unset, .unset, .unset] [(.int (5 : Int32)), (.ref a1), (.ref a1)])) rfl (hb hby at_45)
  refine own_go st12 ?_
  show own_G p e below _ T12 (mkF m 48 #[.val (.int i0), .val (.int ((i0 &&& (2147483647 : Int32)) % (15 : Int32))), .unset, .unset, .unset] [(.ref a_UINT16), (.int (5 : Int32)), (.ref a1), (.ref a1)])
  obtain ⟨T13, h13, X13, e13, W13, st13⟩ := stR X12 hx hZ e12 A11 (j := (5 : Int32)) (own_in (n := 15) rfl (by decide)) rfl (Sto.of A11 O1 (Ins.self (E_UINT16.ext x11))) (g := (mkF m 48 #[.val (.int i0), .val (.int ((i0 &&& (2147483647 : Int32)) % (15 : Int32))), .unset, .unset, .unset] [(.ref a_UINT16), (.int (5 : Int32)), (.ref a1), (.ref a1)])) rfl rfl (hb hby at_48)
  have A13 : Arr Z h13 a1 (own_cell c1 #[(.ref a_BOOLEAN), (.ref a_STRING), (.ref a_CHAR16), (.ref a_UINT8), (.ref a_SINT8), (.ref a_UINT16), .null, .null, .null, .null, .null, .null, .null, .null, .null]) (.object "com/example/quern/quern/model/CimType") := A11.same W13
  have x13 : Ext h0 h13 := own_ext_wr x11 W13 j1
  have N13 := Fr.snoc X13 N11 (Nat.le_trans Z0 j1)
  refine own_go st13 ?_
  show own_G p e below _ T13 (mkF m 49 #[.val (.int i0), .val (.int ((i0 &&& (2147483647 : Int32)) % (15 : Int32))), .unset, .unset, .unset] [(.ref a1)])
  refine own_go (fun t k => XS.dup X13.here hx rfl (hb hby at_49) rfl rfl k) ?_
  show own_G p e below _ T13 (mkF m 50 #[.val (.int i0), .val (.int ((i0 &&& (2147483647 : Int32)) % (15 : Int32))), .unset, .unset, .unset] [(.ref a1), (.ref a1)])
  refine own_go (fun t k => XS.bipush X13.here hx rfl (hb hby at_50) k) ?_
  show own_G p e below _ T13 (mkF m 52 #[.val (.int i0), .val (.int ((i0 &&& (2147483647 : Int32)) % (15 : Int32))), .unset, .unset, .unset] [(.int (6 : Int32)), (.ref a1), (.ref a1)])
  obtain ⟨T14, X14, e14, st14⟩ := getS X13 hx hZ hown (host := "") (hw _ (List.mem_of_getElem? (i := 17) rfl)) Via.refl e13 (S_SINT16.ext x13) (g := (mkF m 52 #[.val (.int i0), .val (.int ((i0 &&& (2147483647 : Int32)) % (15 : Int32))), .unset, .unset, .unset] [(.int (6 : Int32)), (.ref a1), (.ref a1)])) rfl (hb hby at_52)
  refine own_go st14 ?_
  show own_G p e below _ T14 (mkF m 55 #[.val (.int i0), .val (.int ((i0 &&& (2147483647 : Int32)) % (15 : Int32))), .unset, .unset, .unset] [(.ref a_SINT16), (.int (6 : Int32)), (.ref a1), (.ref a1)])
  obtain ⟨T15, h15, X15, e15, W15, st15⟩ := stR X14 hx hZ e14 A13 (j := (6 : Int32)) (own_in (n := 15) rfl (by decide)) rfl (Sto.of A13 O1 (Ins.self (E_SINT16.ext x13))) (g := (mkF m 55 #[.val (.int i0), .val (.int ((i0 &&& (2147483647 : Int32)) % (15 : Int32))), .unset, .unset, .unset] [(.ref a_SINT16), (.int (6 : Int32)), (.ref a1), (.ref a1)])) rfl rfl (hb hby at_55)
  have A15 : Arr Z h15 a1 (own_cell c1 #[(.ref a_BOOLEAN), (.ref a_STRING), (.ref a_CHAR16), (.ref a_UINT8), (.ref a_SINT8), (.ref a_UINT16), (.ref a_SINT16), .null, .null, .null, .null, .null, .null, .null, .null]) (.object "com/example/quern/quern/model/CimType") := A13.same W15
  have x15 : Ext h0 h15 := own_ext_wr x13 W15 j1
  have N15 := Fr.snoc X15 N13 (Nat.le_trans Z0 j1)
  refine own_go st15 ?_
  show own_G p e below _ T15 (mkF m 56 #[.val (.int i0), .val (.int ((i0 &&& (2147483647 : Int32)) % (15 : Int32))), .unset, .unset, .unset] [(.ref a1)])
  refine own_go (fun t k => XS.dup X15.here hx rfl (hb hby at_56) rfl rfl k) ?_
  show own_G p e below _ T15 (mkF m 57 #[.val (.int i0), .val (.int ((i0 &&& (2147483647 : Int32)) % (15 : Int32))), .unset, .unset, .unset] [(.ref a1), (.ref a1)])
  refine own_go (fun t k => XS.bipush X15.here hx rfl (hb hby at_57) k) ?_
  show own_G p e below _ T15 (mkF m 59 #[.val (.int i0), .val (.int ((i0 &&& (2147483647 : Int32)) % (15 : Int32))), .unset, .unset, .unset] [(.int (7 : Int32)), (.ref a1), (.ref a1)])
  obtain ⟨T16, X16, e16, st16⟩ := getS X15 hx hZ hown (host := "") (hw _ (List.mem_of_getElem? (i := 19) rfl)) Via.refl e15 (S_UINT32.ext x15) (g := (mkF m 59 #[.val (.int i0), .val (.int ((i0 &&& (2147483647 : Int32)) % (15 : Int32))), .unset, .unset, .unset] [(.int (7 : Int32)), (.ref a1), (.ref a1)])) rfl (hb hby at_59)
  refine own_go st16 ?_
  show own_G p e below _ T16 (mkF m 62 #[.val (.int i0), .val (.int ((i0 &&& (2147483647 : Int32)) % (15 : Int32))), .unset, .unset, .unset] [(.ref a_UINT32), (.int (7 : Int32)), (.ref a1), (.ref a1)])
  obtain ⟨T17, h17, X17, e17, W17, st17⟩ := stR X16 hx hZ e16 A15 (j := (7 : Int32)) (own_in (n := 15) rfl (by decide)) rfl (Sto.of A15 O1 (Ins.self (E_UINT32.ext x15))) (g := (mkF m 62 #[.val (.int i0), .val (.int ((i0 &&& (2147483647 : Int32)) % (15 : Int32))), .unset, .unset, .unset] [(.ref a_UINT32), (.int (7 : Int32)), (.ref a1), (.ref a1)])) rfl rfl (hb hby at_62)
  have A17 : Arr Z h17 a1 (own_cell c1 #[(.ref a_BOOLEAN), (.ref a_STRING), (.ref a_CHAR16), (.ref a_UINT8), (.ref a_SINT8), (.ref a_UINT16), (.ref a_SINT16), (.ref a_UINT32), .null, .null, .null, .null, .null, .null, .null]) (.object "com/example/quern/quern/model/CimType") := A15.same W17
  have x17 : Ext h0 h17 := own_ext_wr x15 W17 j1
  have N17 := Fr.snoc X17 N15 (Nat.le_trans Z0 j1)
  refine own_go st17 ?_
  show own_G p e below _ T17 (mkF m 63 #[.val (.int i0), .val (.int ((i0 &&& (2147483647 : Int32)) % (15 : Int32))), .unset, .unset, .unset] [(.ref a1)])
  refine own_go (fun t k => XS.dup X17.here hx rfl (hb hby at_63) rfl rfl k) ?_
  show own_G p e below _ T17 (mkF m 64 #[.val (.int i0), .val (.int ((i0 &&& (2147483647 : Int32)) % (15 : Int32))), .unset, .unset, .unset] [(.ref a1), (.ref a1)])
  refine own_go (fun t k => XS.bipush X17.here hx rfl (hb hby at_64) k) ?_
  show own_G p e below _ T17 (mkF m 66 #[.val (.int i0), .val (.int ((i0 &&& (2147483647 : Int32)) % (15 : Int32))), .unset, .unset, .unset] [(.int (8 : Int32)), (.ref a1), (.ref a1)])
  obtain ⟨T18, X18, e18, st18⟩ := getS X17 hx hZ hown (host := "") (hw _ (List.mem_of_getElem? (i := 21) rfl)) Via.refl e17 (S_SINT32.ext x17) (g := (mkF m 66 #[.val (.int i0), .val (.int ((i0 &&& (2147483647 : Int32)) % (15 : Int32))), .unset, .unset, .unset] [(.int (8 : Int32)), (.ref a1), (.ref a1)])) rfl (hb hby at_66)
  refine own_go st18 ?_
  show own_G p e below _ T18 (mkF m 69 #[.val (.int i0), .val (.int ((i0 &&& (2147483647 : Int32)) % (15 : Int32))), .unset, .unset, .unset] [(.ref a_SINT32), (.int (8 : Int32)), (.ref a1), (.ref a1)])
  obtain ⟨T19, h19, X19, e19, W19, st19⟩ := stR X18 hx hZ e18 A17 (j := (8 : Int32)) (own_in (n := 15) rfl (by decide)) rfl (Sto.of A17 O1 (Ins.self (E_SINT32.ext x17))) (g := (mkF m 69 #[.val (.int i0), .val (.int ((i0 &&& (2147483647 : Int32)) % (15 : Int32))), .unset, .unset, .unset] [(.ref a_SINT32), (.int (8 : Int32)), (.ref a1), (.ref a1)])) rfl rfl (hb hby at_69)
  have A19 : Arr Z h19 a1 (own_cell c1 #[(.ref a_BOOLEAN), (.ref a_STRING), (.ref a_CHAR16), (.ref a_UINT8), (.ref a_SINT8), (.ref a_UINT16), (.ref a_SINT16), (.ref a_UINT32), (.ref a_SINT32), .null, .null, .null, .null, .null, .null]) (.object "com/example/quern/quern/model/CimType") := A17.same W19
  have x19 : Ext h0 h19 := own_ext_wr x17 W19 j1
  have N19 := Fr.snoc X19 N17 (Nat.le_trans Z0 j1)
  refine own_go st19 ?_
  show own_G p e below _ T19 (mkF m 70 #[.val (.int i0), .val (.int ((i0 &&& (2147483647 : Int32)) % (15 : Int32))), .unset, .unset, .unset] [(.ref a1)])
  refine own_go (fun t k => XS.dup X19.here hx rfl (hb hby at_70) rfl rfl k) ?_
  show own_G p e below _ T19 (mkF m 71 #[.val (.int i0), .val (.int ((i0 &&& (2147483647 : Int32)) % (15 : Int32))), .unset, .unset, .unset] [(.ref a1), (.ref a1)])
  refine own_go (fun t k => XS.bipush X19.here hx rfl (hb hby at_71) k) ?_
  show own_G p e below _ T19 (mkF m 73 #[.val (.int i0), .val (.int ((i0 &&& (2147483647 : Int32)) % (15 : Int32))), .unset, .unset, .unset] [(.int (9 : Int32)), (.ref a1), (.ref a1)])
  obtain ⟨T20, X20, e20, st20⟩ := getS X19 hx hZ hown (host := "") (hw _ (List.mem_of_getElem? (i := 23) rfl)) Via.refl e19 (S_UINT64.ext x19) (g := (mkF m 73 #[.val (.int i0), .val (.int ((i0 &&& (2147483647 : Int32)) % (15 : Int32))), .unset, .unset, .unset] [(.int (9 : Int32)), (.ref a1), (.ref a1)])) rfl (hb hby at_73)
  refine own_go st20 ?_
  show own_G p e below _ T20 (mkF m 76 #[.val (.int i0), .val (.int ((i0 &&& (2147483647 : Int32)) % (15 : Int32))), .unset, .unset, .unset] [(.ref a_UINT64), (.int (9 : Int32)), (.ref a1), (.ref a1)])
  obtain ⟨T21, h21, X21, e21, W21, st21⟩ := stR X20 hx hZ e20 A19 (j := (9 : Int32)) (own_in (n := 15) rfl (by decide)) rfl (Sto.of A19 O1 (Ins.self (E_UINT64.ext x19))) (g := (mkF m 76 #[.val (.int i0), .val (.int ((i0 &&& (2147483647 : Int32)) % (15 : Int32))), .unset, .unset, .unset] [(.ref a_UINT64), (.int (9 : Int32)), (.ref a1), (.ref a1)])) rfl rfl (hb hby at_76)
  have A21 : Arr Z h21 a1 (own_cell c1 #[(.ref a_BOOLEAN), (.ref a_STRING), (.ref a_CHAR16), (.ref a_UINT8), (.ref a_SINT8), (.ref a_UINT16), (.ref a_SINT16), (.ref a_UINT32), (.ref a_SINT32), (.ref a_UINT64), .null, .null, .null, .null, .null]) (.object "com/example/quern/quern/model/CimType") := A19.same W21
  have x21 : Ext h0 h21 := own_ext_wr x19 W21 j1
  have N21 := Fr.snoc X21 N19 (Nat.le_trans Z0 j1)
  refine own_go st21 ?_
  show own_G p e below _ T21 (mkF m 77 #[.val (.int i0), .val (.int ((i0 &&& (2147483647 : Int32)) % (15 : Int32))), .unset, .unset, .unset] [(.ref a1)])
  refine own_go (fun t k => XS.dup X21.here hx rfl (hb hby at_77) rfl rfl k) ?_
  show own_G p e below _ T21 (mkF m 78 #[.val (.int i0), .val (.int ((i0 &&& (2147483647 : Int32)) % (15 : Int32))), .unset, .unset, .unset] [(.ref a1), (.ref a1)])
  refine own_go (fun t k => XS.bipush X21.here hx rfl (hb hby at_78) k) ?_
  show own_G p e below _ T21 (mkF m 80 #[.val (.int i0), .val (.int ((i0 &&& (2147483647 : Int32)) % (15 : Int32))), .unset, .unset, .unset] [(.int (10 : Int32)), (.ref a1), (.ref a1)])
  obtain ⟨T22, X22, e22, st22⟩ := getS X21 hx hZ hown (host := "") (hw _ (List.mem_of_getElem? (i := 25) rfl)) Via.refl e21 (S_SINT64.ext x21) (g := (mkF m 80 #[.val (.int i0), .val (.int ((i0 &&& (2147483647 : Int32)) % (15 : Int32))), .unset, .unset, .unset] [(.int (10 : Int32)), (.ref a1), (.ref a1)])) rfl (hb hby at_80)
  refine own_go st22 ?_
  show own_G p e below _ T22 (mkF m 83 #[.val (.int i0), .val (.int ((i0 &&& (2147483647 : Int32)) % (15 : Int32))), .unset, .unset, .unset] [(.ref a_SINT64), (.int (10 : Int32)), (.ref a1), (.ref a1)])
  obtain ⟨T23, h23, X23, e23, W23, st23⟩ := stR X22 hx hZ e22 A21 (j := (10 : Int32)) (own_in (n := 15) rfl (by decide)) rfl (Sto.of A21 O1 (Ins.self (E_SINT64.ext x21))) (g := (mkF m 83 #[.val (.int i0), .val (.int ((i0 &&& (2147483647 : Int32)) % (15 : Int32))), .unset, .unset, .unset] [(.ref a_SINT64), (.int (10 : Int32)), (.ref a1), (.ref a1)])) rfl rfl (hb hby at_83)
  have A23 : Arr Z h23 a1 (own_cell c1 #[(.ref a_BOOLEAN), (.ref a_STRING), (.ref a_CHAR16), (.ref a_UINT8), (.ref a_SINT8), (.ref a_UINT16), (.ref a_SINT16), (.ref a_UINT32), (.ref a_SINT32), (.ref a_UINT64), (.ref a_SINT64), .null, .null, .null, .null]) (.object "com/example/quern/quern/model/CimType") := A21.same W23
  have x23 : Ext h0 h23 := own_ext_wr x21 W23 j1
  have N23 := Fr.snoc X23 N21 (Nat.le_trans Z0 j1)
  refine own_go st23 ?_
  show own_G p e below _ T23 (mkF m 84 #[.val (.int i0), .val (.int ((i0 &&& (2147483647 : Int32)) % (15 : Int32))), .unset, .unset, .unset] [(.ref a1)])
  refine own_go (fun t k => XS.dup X23.here hx rfl (hb hby at_84) rfl rfl k) ?_
  show own_G p e below _ T23 (mkF m 85 #[.val (.int i0), .val (.int ((i0 &&& (2147483647 : Int32)) % (15 : Int32))), .unset, .unset, .unset] [(.ref a1), (.ref a1)])
  refine own_go (fun t k => XS.bipush X23.here hx rfl (hb hby at_85) k) ?_
  show own_G p e below _ T23 (mkF m 87 #[.val (.int i0), .val (.int ((i0 &&& (2147483647 : Int32)) % (15 : Int32))), .unset, .unset, .unset] [(.int (11 : Int32)), (.ref a1), (.ref a1)])
  obtain ⟨T24, X24, e24, st24⟩ := getS X23 hx hZ hown (host := "") (hw _ (List.mem_of_getElem? (i := 27) rfl)) Via.refl e23 (S_REAL32.ext x23) (g := (mkF m 87 #[.val (.int i0), .val (.int ((i0 &&& (2147483647 : Int32)) % (15 : Int32))), .unset, .unset, .unset] [(.int (11 : Int32)), (.ref a1), (.ref a1)])) rfl (hb hby at_87)
  refine own_go st24 ?_
  show own_G p e below _ T24 (mkF m 90 #[.val (.int i0), .val (.int ((i0 &&& (2147483647 : Int32)) % (15 : Int32))), .unset, .unset, .unset] [(.ref a_REAL32), (.int (11 : Int32)), (.ref a1), (.ref a1)])
  obtain ⟨T25, h25, X25, e25, W25, st25⟩ := stR X24 hx hZ e24 A23 (j := (11 : Int32)) (own_in (n := 15) rfl (by decide)) rfl (Sto.of A23 O1 (Ins.self (E_REAL32.ext x23))) (g := (mkF m 90 #[.val (.int i0), .val (.int ((i0 &&& (2147483647 : Int32)) % (15 : Int32))), .unset, .unset, .unset] [(.ref a_REAL32), (.int (11 : Int32)), (.ref a1), (.ref a1)])) rfl rfl (hb hby at_90)
  have A25 : Arr Z h25 a1 (own_cell c1 #[(.ref a_BOOLEAN), (.ref a_STRING), (.ref a_CHAR16), (.ref a_UINT8), (.ref a_SINT8), (.ref a_UINT16), (.ref a_SINT16), (.ref a_UINT32), (.ref a_SINT32), (.ref a_UINT64), (.ref a_SINT64), (.ref a_REAL32), .null, .null, .null]) (.object "com/example/quern/quern/model/CimType") := A23.same W25
  have x25 : Ext h0 h25 := own_ext_wr x23 W25 j1
  have N25 := Fr.snoc X25 N23 (Nat.le_trans Z0 j1)
  refine own_go st25 ?_
  show own_G p e below _ T25 (mkF m 91 #[.val (.int i0), .val (.int ((i0 &&& (2147483647 : Int32)) % (15 : Int32))), .unset, .unset, .unset] [(.ref a1)])
  refine own_go (fun t k => XS.dup X25.here hx rfl (hb hby at_91) rfl rfl k) ?_
  show own_G p e below _ T25 (mkF m 92 #[.val (.int i0), .val (.int ((i0 &&& (2147483647 : Int32)) % (15 : Int32))), .unset, .unset, .unset] [(.ref a1), (.ref a1)])
  refine own_go (fun t k => XS.bipush X25.here hx rfl (hb hby at_92) k) ?_
  show own_G p e below _ T25 (mkF m 94 #[.val (.int i0), .val (.int ((i0 &&& (2147483647 : Int32)) % (15 : Int32))), .unset, .unset, .unset] [(.int (12 : Int32)), (.ref a1), (.ref a1)])
  obtain ⟨T26, X26, e26, st26⟩ := getS X25 hx hZ hown (host := "") (hw _ (List.mem_of_getElem? (i := 29) rfl)) Via.refl e25 (S_REAL64.ext x25) (g := (mkF m 94 #[.val (.int i0), .val (.int ((i0 &&& (2147483647 : Int32)) % (15 : Int32))), .unset, .unset, .unset] [(.int (12 : Int32)), (.ref a1), (.ref a1)])) rfl (hb hby at_94)
  refine own_go st26 ?_
  show own_G p e below _ T26 (mkF m 97 #[.val (.int i0), .val (.int ((i0 &&& (2147483647 : Int32)) % (15 : Int32))), .unset, .unset, .unset] [(.ref a_REAL64), (.int (12 : Int32)), (.ref a1), (.ref a1)])
  obtain ⟨T27, h27, X27, e27, W27, st27⟩ := stR X26 hx hZ e26 A25 (j := (12 : Int32)) (own_in (n := 15) rfl (by decide)) rfl (Sto.of A25 O1 (Ins.self (E_REAL64.ext x25))) (g := (mkF m 97 #[.val (.int i0), .val (.int ((i0 &&& (2147483647 : Int32)) % (15 : Int32))), .unset, .unset, .unset] [(.ref a_REAL64), (.int (12 : Int32)), (.ref a1), (.ref a1)])) rfl rfl (hb hby at_97)
  have A27 : Arr Z h27 a1 (own_cell c1 #[(.ref a_BOOLEAN), (.ref a_STRING), (.ref a_CHAR16), (.ref a_UINT8), (.ref a_SINT8), (.ref a_UINT16), (.ref a_SINT16), (.ref a_UINT32), (.ref a_SINT32), (.ref a_UINT64), (.ref a_SINT64), (.ref a_REAL32), (.ref a_REAL64), .null, .null]) (.object "com/example/quern/quern/model/CimType") := A25.same W27
  have x27 : Ext h0 h27 := own_ext_wr x25 W27 j1
  have N27 := Fr.snoc X27 N25 (Nat.le_trans Z0 j1)
  refine own_go st27 ?_
  show own_G p e below _ T27 (mkF m 98 #[.val (.int i0), .val (.int ((i0 &&& (2147483647 : Int32)) % (15 : Int32))), .unset, .unset, .unset] [(.ref a1)])
  refine own_go (fun t k => XS.dup X27.here hx rfl (hb hby at_98) rfl rfl k) ?_
  show own_G p e below _ T27 (mkF m 99 #[.val (.int i0), .val (.int ((i0 &&& (2147483647 : Int32)) % (15 : Int32))), .unset, .unset, .unset] [(.ref a1), (.ref a1)])
  refine own_go (fun t k => XS.bipush X27.here hx rfl (hb hby at_99) k) ?_
  show own_G p e below _ T27 (mkF m 101 #[.val (.int i0), .val (.int ((i0 &&& (2147483647 : Int32)) % (15 : Int32))), .unset, .unset, .unset] [(.int (13 : Int32)), (.ref a1), (.ref a1)])
  obtain ⟨T28, X28, e28, st28⟩ := getS X27 hx hZ hown (host := "") (hw _ (List.mem_of_getElem? (i := 31) rfl)) Via.refl e27 (S_DATETIME.ext x27) (g := (mkF m 101 #[.val (.int i0), .val (.int ((i0 &&& (2147483647 : Int32)) % (15 : Int32))), .unset, .unset, .unset] [(.int (13 : Int32)), (.ref a1), (.ref a1)])) rfl (hb hby at_101)
  refine own_go st28 ?_
  show own_G p e below _ T28 (mkF m 104 #[.val (.int i0), .val (.int ((i0 &&& (2147483647 : Int32)) % (15 : Int32))), .unset, .unset, .unset] [(.ref a_DATETIME), (.int (13 : Int32)), (.ref a1), (.ref a1)])
  obtain ⟨T29, h29, X29, e29, W29, st29⟩ := stR X28 hx hZ e28 A27 (j := (13 : Int32)) (own_in (n := 15) rfl (by decide)) rfl (Sto.of A27 O1 (Ins.self (E_DATETIME.ext x27))) (g := (mkF m 104 #[.val (.int i0), .val (.int ((i0 &&& (2147483647 : Int32)) % (15 : Int32))), .unset, .unset, .unset] [(.ref a_DATETIME), (.int (13 : Int32)), (.ref a1), (.ref a1)])) rfl rfl (hb hby at_104)
  have A29 : Arr Z h29 a1 (own_cell c1 #[(.ref a_BOOLEAN), (.ref a_STRING), (.ref a_CHAR16), (.ref a_UINT8), (.ref a_SINT8), (.ref a_UINT16), (.ref a_SINT16), (.ref a_UINT32), (.ref a_SINT32), (.ref a_UINT64), (.ref a_SINT64), (.ref a_REAL32), (.ref a_REAL64), (.ref a_DATETIME), .null]) (.object "com/example/quern/quern/model/CimType") := A27.same W29
  have x29 : Ext h0 h29 := own_ext_wr x27 W29 j1
  have N29 := Fr.snoc X29 N27 (Nat.le_trans Z0 j1)
  refine own_go st29 ?_
  show own_G p e below _ T29 (mkF m 105 #[.val (.int i0), .val (.int ((i0 &&& (2147483647 : Int32)) % (15 : Int32))), .unset, .unset, .unset] [(.ref a1)])
  refine own_go (fun t k => XS.dup X29.here hx rfl (hb hby at_105) rfl rfl k) ?_
  show own_G p e below _ T29 (mkF m 106 #[.val (.int i0), .val (.int ((i0 &&& (2147483647 : Int32)) % (15 : Int32))), .unset, .unset, .unset] [(.ref a1), (.ref a1)])
  refine own_go (fun t k => XS.bipush X29.here hx rfl (hb hby at_106) k) ?_
  show own_G p e below _ T29 (mkF m 108 #[.val (.int i0), .val (.int ((i0 &&& (2147483647 : Int32)) % (15 : Int32))), .unset, .unset, .unset] [(.int (14 : Int32)), (.ref a1), (.ref a1)])
  obtain ⟨T30, X30, e30, st30⟩ := getS X29 hx hZ hown (host := "") (hw _ (List.mem_of_getElem? (i := 33) rfl)) Via.refl e29 (S_REFERENCE.ext x29) (g := (mkF m 108 #[.val (.int i0), .val (.int ((i0 &&& (2147483647 : Int32)) % (15 : Int32))), .unset, .unset, .unset] [(.int (14 : Int32)), (.ref a1), (.ref a1)])) rfl (hb hby at_108)
  refine own_go st30 ?_
  show own_G p e below _ T30 (mkF m 111 #[.val (.int i0), .val (.int ((i0 &&& (2147483647 : Int32)) % (15 : Int32))), .unset, .unset, .unset] [(.ref a_REFERENCE), (.int (14 : Int32)), (.ref a1), (.ref a1)])
  obtain ⟨T31, h31, X31, e31, W31, st31⟩ := stR X30 hx hZ e30 A29 (j := (14 : Int32)) (own_in (n := 15) rfl (by decide)) rfl (Sto.of A29 O1 (Ins.self (E_REFERENCE.ext x29))) (g := (mkF m 111 #[.val (.int i0), .val (.int ((i0 &&& (2147483647 : Int32)) % (15 : Int32))), .unset, .unset, .unset] [(.ref a_REFERENCE), (.int (14 : Int32)), (.ref a1), (.ref a1)])) rfl rfl (hb hby at_111)
  have A31 : Arr Z h31 a1 (own_cell c1 #[(.ref a_BOOLEAN), (.ref a_STRING), (.ref a_CHAR16), (.ref a_UINT8), (.ref a_SINT8), (.ref a_UINT16), (.ref a_SINT16), (.ref a_UINT32), (.ref a_SINT32), (.ref a_UINT64), (.ref a_SINT64), (.ref a_REAL32), (.ref a_REAL64), (.ref a_DATETIME), (.ref a_REFERENCE)]) (.object "com/example/quern/quern/model/CimType") := A29.same W31
  have x31 : Ext h0 h31 := own_ext_wr x29 W31 j1
  have N31 := Fr.snoc X31 N29 (Nat.le_trans Z0 j1)
  refine own_go st31 ?_
  show own_G p e below _ T31 (mkF m 112 #[.val (.int i0), .val (.int ((i0 &&& (2147483647 : Int32)) % (15 : Int32))), .unset, .unset, .unset] [(.ref a1)])
  refine own_go (fun t k => XS.astoreN X31.here hx rfl (hb hby at_112) rfl rfl (l' := #[.val (.int i0), .val (.int ((i0 &&& (2147483647 : Int32)) % (15 : Int32))), .val (.ref a1), .unset, .unset]) rfl k) ?_
  show own_G p e below _ T31 (mkF m 113 #[.val (.int i0), .val (.int ((i0 &&& (2147483647 : Int32)) % (15 : Int32))), .val (.ref a1), .unset, .unset] [])
  rcases hk with hk32 | hk32 | hk32 | hk32 | hk32 | hk32 | hk32 | hk32 | hk32 | hk32 | hk32 | hk32 | hk32 | hk32 | hk32
  · rw [hk32]
    show own_G p e below _ T31 (mkF m 113 #[.val (.int i0), .val (.int (0 : Int32)), .val (.ref a1), .unset, .unset] [])
    refine own_go (fun t k => XS.aloadN X31.here hx rfl (hb hby at_113) rfl rfl k) ?_
    show own_G p e below _ T31 (mkF m 114 #[.val (.int i0), .val (.int (0 : Int32)), .val (.ref a1), .unset, .unset] [(.ref a1)])
    refine own_go (fun t k => XS.iloadN X31.here hx rfl (hb hby at_114) rfl k) ?_
    show own_G p e below _ T31 (mkF m 115 #[.val (.int i0), .val (.int (0 : Int32)), .val (.ref a1), .unset, .unset] [(.int (0 : Int32)), (.ref a1)])
    refine own_go (X31.aaload hx (j := (0 : Int32)) (v := (.ref a_BOOLEAN)) (by rw [e31]; exact A31.1) (State.isArrayOf_alike hZ.alike A31.2.1) rfl A31.2.2 (own_in (n := 15) rfl (by decide)) rfl (g := (mkF m 115 #[.val (.int i0), .val (.int (0 : Int32)), .val (.ref a1), .unset, .unset] [(.int (0 : Int32)), (.ref a1)])) rfl rfl (hb hby at_115)) ?_
    show own_G p e below _ T31 (mkF m 116 #[.val (.int i0), .val (.int (0 : Int32)), .val (.ref a1), .unset, .unset] [(.ref a_BOOLEAN)])
    refine own_go (fun t k => XS.astoreN X31.here hx rfl (hb hby at_116) rfl rfl (l' := #[.val (.int i0), .val (.int (0 : Int32)), .val (.ref a1), .val (.ref a_BOOLEAN), .unset]) rfl k) ?_
    show own_G p e below _ T31 (mkF m 117 #[.val (.int i0), .val (.int (0 : Int32)), .val (.ref a1), .val (.ref a_BOOLEAN), .unset] [])
    refine own_go (fun t k => XS.iloadN X31.here hx rfl (hb hby at_117) rfl k) ?_
    show own_G p e below _ T31 (mkF m 118 #[.val (.int i0), .val (.int (0 : Int32)), .val (.ref a1), .val (.ref a_BOOLEAN), .unset] [(.int (0 : Int32))])
    refine own_go (fun t k => XS.iconst X31.here hx rfl (hb hby at_118) k) ?_
    show own_G p e below _ T31 (mkF m 119 #[.val (.int i0), .val (.int (0 : Int32)), .val (.ref a1), .val (.ref a_BOOLEAN), .unset] [(.int (1 : Int32)), (.int (0 : Int32))])
    refine own_go (fun t k => XS.icmpNo X31.here hx rfl (hb hby at_119) rfl (by decide) k) ?_
    show own_G p e below _ T31 (mkF m 122 #[.val (.int i0), .val (.int (0 : Int32)), .val (.ref a1), .val (.ref a_BOOLEAN), .unset] [])
    refine own_go (fun t k => XS.iloadN X31.here hx rfl (hb hby at_122) rfl k) ?_
    show own_G p e below _ T31 (mkF m 123 #[.val (.int i0), .val (.int (0 : Int32)), .val (.ref a1), .val (.ref a_BOOLEAN), .unset] [(.int (0 : Int32))])
    refine own_go (fun t k => XS.iconst X31.here hx rfl (hb hby at_123) k) ?_
    show own_G p e below _ T31 (mkF m 124 #[.val (.int i0), .val (.int (0 : Int32)), .val (.ref a1), .val (.ref a_BOOLEAN), .unset] [(.int (2 : Int32)), (.int (0 : Int32))])
    refine own_go (fun t k => XS.icmpYes X31.here hx rfl (pc0 := 124) (pc' := 131) rfl (hb hby at_124) rfl (by decide) (by decide) (by decide) k) ?_
    show own_G p e below _ T31 (mkF m 131 #[.val (.int i0), .val (.int (0 : Int32)), .val (.ref a1), .val (.ref a_BOOLEAN), .unset] [])
    refine own_go (fun t k => XS.iconst X31.here hx rfl (hb hby at_131) k) ?_
    show own_G p e below _ T31 (mkF m 132 #[.val (.int i0), .val (.int (0 : Int32)), .val (.ref a1), .val (.ref a_BOOLEAN), .unset] [(.int (0 : Int32))])
    refine own_go (fun t k => XS.istore X31.here hx rfl (hb hby at_132) rfl (l' := #[.val (.int i0), .val (.int (0 : Int32)), .val (.ref a1), .val (.ref a_BOOLEAN), .val (.int (0 : Int32))]) rfl k) ?_
    show own_G p e below _ T31 (mkF m 134 #[.val (.int i0), .val (.int (0 : Int32)), .val (.ref a1), .val (.ref a_BOOLEAN), .val (.int (0 : Int32))] [])
    refine own_go (fun t k => XS.aloadN X31.here hx rfl (hb hby at_134) rfl rfl k) ?_
    show own_G p e below _ T31 (mkF m 135 #[.val (.int i0), .val (.int (0 : Int32)), .val (.ref a1), .val (.ref a_BOOLEAN), .val (.int (0 : Int32))] [(.ref a_BOOLEAN)])
    obtain ⟨T33, L33, v33, X33, ⟨rfl, rfl, q33⟩, st33⟩ := own_callV X31 hx hZ (y := (⟨"com/example/quern/quern/model/CimType", "isText", "()Z"⟩ : MethodName)) (z := (⟨"com/example/quern/quern/model/CimType", "isText", "()Z"⟩ : MethodName)) hown (hw _ (List.mem_of_getElem? (i := 35) rfl)) (hw _ (List.mem_of_getElem? (i := 36) rfl)) (hw _ (List.mem_of_getElem? (i := 38) rfl)) (hw _ (List.mem_of_getElem? (i := 38) rfl)) (hw _ (List.mem_of_getElem? (i := 37) rfl)) (hw _ (List.mem_of_getElem? (i := 39) rfl)) (hw _ (List.mem_of_getElem? (i := 4) rfl)) (notFace_of_selects (args := #[]) (mvT hZ (hw _ (List.mem_of_getElem? (i := 38) rfl)))) (by decide) (c_isText l Z a0 hw a_BOOLEAN a_STRING a_CHAR16 a_UINT8 a_SINT8 a_UINT16 a_SINT16 a_UINT32 a_SINT32 a_UINT64 a_SINT64 a_REAL32 a_REAL64 a_DATETIME a_REFERENCE a_BOOLEAN h31 (own_B_ext x31 B) ) e31 (E_BOOLEAN.ext x31) (argsL := []) (rest := []) (g := (mkF m 135 #[.val (.int i0), .val (.int (0 : Int32)), .val (.ref a1), .val (.ref a_BOOLEAN), .val (.int (0 : Int32))] [(.ref a_BOOLEAN)])) rfl (by rw [hml]; rfl) (ps := []) (r := (some .boolean)) (by decide +kernel) rfl rfl (W := 0) (by show 2 * 0 + _ ≤ _; exact Nat.le_of_eq rfl) (hb hby at_135) (by decide) (by decide) (by decide) (by decide)
    have N33 := Fr.app N31 (Fr.nil n0)
    refine own_go st33 ?_
    show own_G p e below _ T33 (mkF m 138 #[.val (.int i0), .val (.int (0 : Int32)), .val (.ref a1), .val (.ref a_BOOLEAN), .val (.int (0 : Int32))] [(.int (own_isText a_BOOLEAN a_STRING a_CHAR16 a_UINT8 a_SINT8 a_UINT16 a_SINT16 a_UINT32 a_SINT32 a_UINT64 a_SINT64 a_REAL32 a_REAL64 a_DATETIME a_REFERENCE a_BOOLEAN))])
    have r33 : (own_isText a_BOOLEAN a_STRING a_CHAR16 a_UINT8 a_SINT8 a_UINT16 a_SINT16 a_UINT32 a_SINT32 a_UINT64 a_SINT64 a_REAL32 a_REAL64 a_DATETIME a_REFERENCE a_BOOLEAN) = (0 : Int32) := by unfold own_isText; rw [if_neg (Fld.ne F_BOOLEAN_ordinal F_STRING_ordinal (own_neV (by decide))), if_neg (Fld.ne F_BOOLEAN_ordinal F_CHAR16_ordinal (own_neV (by decide)))]; rfl
    rw [r33]
    show own_G p e below _ T33 (mkF m 138 #[.val (.int i0), .val (.int (0 : Int32)), .val (.ref a1), .val (.ref a_BOOLEAN), .val (.int (0 : Int32))] [(.int (0 : Int32))])
    refine own_go (fun t k => XS.iload X33.here hx rfl (hb hby at_138) rfl k) ?_
    show own_G p e below _ T33 (mkF m 140 #[.val (.int i0), .val (.int (0 : Int32)), .val (.ref a1), .val (.ref a_BOOLEAN), .val (.int (0 : Int32))] [(.int (0 : Int32)), (.int (0 : Int32))])
    refine own_go (fun t k => XS.icmpNo X33.here hx rfl (hb hby at_140) rfl (by decide) k) ?_
    show own_G p e below _ T33 (mkF m 143 #[.val (.int i0), .val (.int (0 : Int32)), .val (.ref a1), .val (.ref a_BOOLEAN), .val (.int (0 : Int32))] [])
    refine own_go (fun t k => XS.iconst X33.here hx rfl (hb hby at_143) k) ?_
    show own_G p e below _ T33 (mkF m 144 #[.val (.int i0), .val (.int (0 : Int32)), .val (.ref a1), .val (.ref a_BOOLEAN), .val (.int (0 : Int32))] [(.int (1 : Int32))])
    refine own_go (fun t k => XS.goto X33.here hx rfl (pc0 := 144) (pc' := 148) rfl (hb hby at_144) (by decide) (by decide) k) ?_
    show own_G p e below _ T33 (mkF m 148 #[.val (.int i0), .val (.int (0 : Int32)), .val (.ref a1), .val (.ref a_BOOLEAN), .val (.int (0 : Int32))] [(.int (1 : Int32))])
    exact own_retN X33 hx hlk hret (by simp) (hb hby at_148) (by decide) (by decide) ⟨rfl, N33⟩
  · rw [hk32]
    show own_G p e below _ T31 (mkF m 113 #[.val (.int i0), .val (.int (1 : Int32)), .val (.ref a1), .unset, .unset] [])
    refine own_go (fun t k => XS.aloadN X31.here hx rfl (hb hby at_113) rfl rfl k) ?_
    show own_G p e below _ T31 (mkF m 114 #[.val (.int i0), .val (.int (1 : Int32)), .val (.ref a1), .unset, .unset] [(.ref a1)])
    refine own_go (fun t k => XS.iloadN X31.here hx rfl (hb hby at_114) rfl k) ?_
    show own_G p e below _ T31 (mkF m 115 #[.val (.int i0), .val (.int (1 : Int32)), .val (.ref a1), .unset, .unset] [(.int (1 : Int32)), (.ref a1)])
    refine own_go (X31.aaload hx (j := (1 : Int32)) (v := (.ref a_STRING)) (by rw [e31]; exact A31.1) (State.isArrayOf_alike hZ.alike A31.2.1) rfl A31.2.2 (own_in (n := 15) rfl (by decide)) rfl (g := (mkF m 115 #[.val (.int i0), .val (.int (1 : Int32)), .val (.ref a1), .unset, .unset] [(.int (1 : Int32)), (.ref a1)])) rfl rfl (hb hby at_115)) ?_
    show own_G p e below _ T31 (mkF m 116 #[.val (.int i0), .val (.int (1 : Int32)), .val (.ref a1), .unset, .unset] [(.ref a_STRING)])
    refine own_go (fun t k => XS.astoreN X31.here hx rfl (hb hby at_116) rfl rfl (l' := #[.val (.int i0), .val (.int (1 : Int32)), .val (.ref a1), .val (.ref a_STRING), .unset]) rfl k) ?_
    show own_G p e below _ T31 (mkF m 117 #[.val (.int i0), .val (.int (1 : Int32)), .val (.ref a1), .val (.ref a_STRING), .unset] [])
    refine own_go (fun t k => XS.iloadN X31.here hx rfl (hb hby at_117) rfl k) ?_
    show own_G p e below _ T31 (mkF m 118 #[.val (.int i0), .val (.int (1 : Int32)), .val (.ref a1), .val (.ref a_STRING), .unset] [(.int (1 : Int32))])
    refine own_go (fun t k => XS.iconst X31.here hx rfl (hb hby at_118) k) ?_
    show own_G p e below _ T31 (mkF m 119 #[.val (.int i0), .val (.int (1 : Int32)), .val (.ref a1), .val (.ref a_STRING), .unset] [(.int (1 : Int32)), (.int (1 : Int32))])
    refine own_go (fun t k => XS.icmpYes X31.here hx rfl (pc0 := 119) (pc' := 127) rfl (hb hby at_119) rfl (by decide) (by decide) (by decide) k) ?_
    show own_G p e below _ T31 (mkF m 127 #[.val (.int i0), .val (.int (1 : Int32)), .val (.ref a1), .val (.ref a_STRING), .unset] [])
    refine own_go (fun t k => XS.iconst X31.here hx rfl (hb hby at_127) k) ?_
    show own_G p e below _ T31 (mkF m 128 #[.val (.int i0), .val (.int (1 : Int32)), .val (.ref a1), .val (.ref a_STRING), .unset] [(.int (1 : Int32))])
    refine own_go (fun t k => XS.goto X31.here hx rfl (pc0 := 128) (pc' := 132) rfl (hb hby at_128) (by decide) (by decide) k) ?_
    show own_G p e below _ T31 (mkF m 132 #[.val (.int i0), .val (.int (1 : Int32)), .val (.ref a1), .val (.ref a_STRING), .unset] [(.int (1 : Int32))])
    refine own_go (fun t k => XS.istore X31.here hx rfl (hb hby at_132) rfl (l' := #[.val (.int i0), .val (.int (1 : Int32)), .val (.ref a1), .val (.ref a_STRING), .val (.int (1 : Int32))]) rfl k) ?_
    show own_G p e below _ T31 (mkF m 134 #[.val (.int i0), .val (.int (1 : Int32)), .val (.ref a1), .val (.ref a_STRING), .val (.int (1 : Int32))] [])
    refine own_go (fun t k => XS.aloadN X31.here hx rfl (hb hby at_134) rfl rfl k) ?_
    show own_G p e below _ T31 (mkF m 135 #[.val (.int i0), .val (.int (1 : Int32)), .val (.ref a1), .val (.ref a_STRING), .val (.int (1 : Int32))] [(.ref a_STRING)])
    obtain ⟨T34, L34, v34, X34, ⟨rfl, rfl, q34⟩, st34⟩ := own_callV X31 hx hZ (y := (⟨"com/example/quern/quern/model/CimType", "isText", "()Z"⟩ : MethodName)) (z := (⟨"com/example/quern/quern/model/CimType", "isText", "()Z"⟩ : MethodName)) hown (hw _ (List.mem_of_getElem? (i := 35) rfl)) (hw _ (List.mem_of_getElem? (i := 36) rfl)) (hw _ (List.mem_of_getElem? (i := 38) rfl)) (hw _ (List.mem_of_getElem? (i := 38) rfl)) (hw _ (List.mem_of_getElem? (i := 37) rfl)) (hw _ (List.mem_of_getElem? (i := 39) rfl)) (hw _ (List.mem_of_getElem? (i := 4) rfl)) (notFace_of_selects (args := #[]) (mvT hZ (hw _ (List.mem_of_getElem? (i := 38) rfl)))) (by decide) (c_isText l Z a0 hw a_BOOLEAN a_STRING a_CHAR16 a_UINT8 a_SINT8 a_UINT16 a_SINT16 a_UINT32 a_SINT32 a_UINT64 a_SINT64 a_REAL32 a_REAL64 a_DATETIME a_REFERENCE a_STRING h31 (own_B_ext x31 B) ) e31 (E_STRING.ext x31) (argsL := []) (rest := []) (g := (mkF m 135 #[.val (.int i0), .val (.int (1 : Int32)), .val (.ref a1), .val (.ref a_STRING), .val (.int (1 : Int32))] [(.ref a_STRING)])) rfl (by rw [hml]; rfl) (ps := []) (r := (some .boolean)) (by decide +kernel) rfl rfl (W := 0) (by show 2 * 0 + _ ≤ _; exact Nat.le_of_eq rfl) (hb hby at_135) (by decide) (by decide) (by decide) (by decide)
    have N34 := Fr.app N31 (Fr.nil n0)
    refine own_go st34 ?_
    show own_G p e below _ T34 (mkF m 138 #[.val (.int i0), .val (.int (1 : Int32)), .val (.ref a1), .val (.ref a_STRING), .val (.int (1 : Int32))] [(.int (own_isText a_BOOLEAN a_STRING a_CHAR16 a_UINT8 a_SINT8 a_UINT16 a_SINT16 a_UINT32 a_SINT32 a_UINT64 a_SINT64 a_REAL32 a_REAL64 a_DATETIME a_REFERENCE a_STRING))])
    have r34 : (own_isText a_BOOLEAN a_STRING a_CHAR16 a_UINT8 a_SINT8 a_UINT16 a_SINT16 a_UINT32 a_SINT32 a_UINT64 a_SINT64 a_REAL32 a_REAL64 a_DATETIME a_REFERENCE a_STRING) = (1 : Int32) := by unfold own_isText; rw [if_pos (rfl : a_STRING = a_STRING)]; rfl
    rw [r34]
    show own_G p e below _ T34 (mkF m 138 #[.val (.int i0), .val (.int (1 : Int32)), .val (.ref a1), .val (.ref a_STRING), .val (.int (1 : Int32))] [(.int (1 : Int32))])
    refine own_go (fun t k => XS.iload X34.here hx rfl (hb hby at_138) rfl k) ?_
    show own_G p e below _ T34 (mkF m 140 #[.val (.int i0), .val (.int (1 : Int32)), .val (.ref a1), .val (.ref a_STRING), .val (.int (1 : Int32))] [(.int (1 : Int32)), (.int (1 : Int32))])
    refine own_go (fun t k => XS.icmpNo X34.here hx rfl (hb hby at_140) rfl (by decide) k) ?_
    show own_G p e below _ T34 (mkF m 143 #[.val (.int i0), .val (.int (1 : Int32)), .val (.ref a1), .val (.ref a_STRING), .val (.int (1 : Int32))] [])
    refine own_go (fun t k => XS.iconst X34.here hx rfl (hb hby at_143) k) ?_
    show own_G p e below _ T34 (mkF m 144 #[.val (.int i0), .val (.int (1 : Int32)), .val (.ref a1), .val (.ref a_STRING), .val (.int (1 : Int32))] [(.int (1 : Int32))])
    refine own_go (fun t k => XS.goto X34.here hx rfl (pc0 := 144) (pc' := 148) rfl (hb hby at_144) (by decide) (by decide) k) ?_
    show own_G p e below _ T34 (mkF m 148 #[.val (.int i0), .val (.int (1 : Int32)), .val (.ref a1), .val (.ref a_STRING), .val (.int (1 : Int32))] [(.int (1 : Int32))])
    exact own_retN X34 hx hlk hret (by simp) (hb hby at_148) (by decide) (by decide) ⟨rfl, N34⟩
  · rw [hk32]
    show own_G p e below _ T31 (mkF m 113 #[.val (.int i0), .val (.int (2 : Int32)), .val (.ref a1), .unset, .unset] [])
    refine own_go (fun t k => XS.aloadN X31.here hx rfl (hb hby at_113) rfl rfl k) ?_
    show own_G p e below _ T31 (mkF m 114 #[.val (.int i0), .val (.int (2 : Int32)), .val (.ref a1), .unset, .unset] [(.ref a1)])
    refine own_go (fun t k => XS.iloadN X31.here hx rfl (hb hby at_114) rfl k) ?_
    show own_G p e below _ T31 (mkF m 115 #[.val (.int i0), .val (.int (2 : Int32)), .val (.ref a1), .unset, .unset] [(.int (2 : Int32)), (.ref a1)])
    refine own_go (X31.aaload hx (j := (2 : Int32)) (v := (.ref a_CHAR16)) (by rw [e31]; exact A31.1) (State.isArrayOf_alike hZ.alike A31.2.1) rfl A31.2.2 (own_in (n := 15) rfl (by decide)) rfl (g := (mkF m 115 #[.val (.int i0), .val (.int (2 : Int32)), .val (.ref a1), .unset, .unset] [(.int (2 : Int32)), (.ref a1)])) rfl rfl (hb hby at_115)) ?_
    show own_G p e below _ T31 (mkF m 116 #[.val (.int i0), .val (.int (2 : Int32)), .val (.ref a1), .unset, .unset] [(.ref a_CHAR16)])
    refine own_go (fun t k => XS.astoreN X31.here hx rfl (hb hby at_116) rfl rfl (l' := #[.val (.int i0), .val (.int (2 : Int32)), .val (.ref a1), .val (.ref a_CHAR16), .unset]) rfl k) ?_
    show own_G p e below _ T31 (mkF m 117 #[.val (.int i0), .val (.int (2 : Int32)), .val (.ref a1), .val (.ref a_CHAR16), .unset] [])
    refine own_go (fun t k => XS.iloadN X31.here hx rfl (hb hby at_117) rfl k) ?_
    show own_G p e below _ T31 (mkF m 118 #[.val (.int i0), .val (.int (2 : Int32)), .val (.ref a1), .val (.ref a_CHAR16), .unset] [(.int (2 : Int32))])
    refine own_go (fun t k => XS.iconst X31.here hx rfl (hb hby at_118) k) ?_
    show own_G p e below _ T31 (mkF m 119 #[.val (.int i0), .val (.int (2 : Int32)), .val (.ref a1), .val (.ref a_CHAR16), .unset] [(.int (1 : Int32)), (.int (2 : Int32))])
    refine own_go (fun t k => XS.icmpNo X31.here hx rfl (hb hby at_119) rfl (by decide) k) ?_
    show own_G p e below _ T31 (mkF m 122 #[.val (.int i0), .val (.int (2 : Int32)), .val (.ref a1), .val (.ref a_CHAR16), .unset] [])
    refine own_go (fun t k => XS.iloadN X31.here hx rfl (hb hby at_122) rfl k) ?_
    show own_G p e below _ T31 (mkF m 123 #[.val (.int i0), .val (.int (2 : Int32)), .val (.ref a1), .val (.ref a_CHAR16), .unset] [(.int (2 : Int32))])
    refine own_go (fun t k => XS.iconst X31.here hx rfl (hb hby at_123) k) ?_
    show own_G p e below _ T31 (mkF m 124 #[.val (.int i0), .val (.int (2 : Int32)), .val (.ref a1), .val (.ref a_CHAR16), .unset] [(.int (2 : Int32)), (.int (2 : Int32))])
    refine own_go (fun t k => XS.icmpNo X31.here hx rfl (hb hby at_124) rfl (by decide) k) ?_
    show own_G p e below _ T31 (mkF m 127 #[.val (.int i0), .val (.int (2 : Int32)), .val (.ref a1), .val (.ref a_CHAR16), .unset] [])
    refine own_go (fun t k => XS.iconst X31.here hx rfl (hb hby at_127) k) ?_
    show own_G p e below _ T31 (mkF m 128 #[.val (.int i0), .val (.int (2 : Int32)), .val (.ref a1), .val (.ref a_CHAR16), .unset] [(.int (1 : Int32))])
    refine own_go (fun t k => XS.goto X31.here hx rfl (pc0 := 128) (pc' := 132) rfl (hb hby at_128) (by decide) (by decide) k) ?_
    show own_G p e below _ T31 (mkF m 132 #[.val (.int i0), .val (.int (2 : Int32)), .val (.ref a1), .val (.ref a_CHAR16), .unset] [(.int (1 : Int32))])
    refine own_go (fun t k => XS.istore X31.here hx rfl (hb hby at_132) rfl (l' := #[.val (.int i0), .val (.int (2 : Int32)), .val (.ref a1), .val (.ref a_CHAR16), .val (.int (1 : Int32))]) rfl k) ?_
    show own_G p e below _ T31 (mkF m 134 #[.val (.int i0), .val (.int (2 : Int32)), .val (.ref a1), .val (.ref a_CHAR16), .val (.int (1 : Int32))] [])
    refine own_go (fun t k => XS.aloadN X31.here hx rfl (hb hby at_134) rfl rfl k) ?_
    show own_G p e below _ T31 (mkF m 135 #[.val (.int i0), .val (.int (2 : Int32)), .val (.ref a1), .val (.ref a_CHAR16), .val (.int (1 : Int32))] [(.ref a_CHAR16)])
    obtain ⟨T35, L35, v35, X35, ⟨rfl, rfl, q35⟩, st35⟩ := own_callV X31 hx hZ (y := (⟨"com/example/quern/quern/model/CimType", "isText", "()Z"⟩ : MethodName)) (z := (⟨"com/example/quern/quern/model/CimType", "isText", "()Z"⟩ : MethodName)) hown (hw _ (List.mem_of_getElem? (i := 35) rfl)) (hw _ (List.mem_of_getElem? (i := 36) rfl)) (hw _ (List.mem_of_getElem? (i := 38) rfl)) (hw _ (List.mem_of_getElem? (i := 38) rfl)) (hw _ (List.mem_of_getElem? (i := 37) rfl)) (hw _ (List.mem_of_getElem? (i := 39) rfl)) (hw _ (List.mem_of_getElem? (i := 4) rfl)) (notFace_of_selects (args := #[]) (mvT hZ (hw _ (List.mem_of_getElem? (i := 38) rfl)))) (by decide) (c_isText l Z a0 hw a_BOOLEAN a_STRING a_CHAR16 a_UINT8 a_SINT8 a_UINT16 a_SINT16 a_UINT32 a_SINT32 a_UINT64 a_SINT64 a_REAL32 a_REAL64 a_DATETIME a_REFERENCE a_CHAR16 h31 (own_B_ext x31 B) ) e31 (E_CHAR16.ext x31) (argsL := []) (rest := []) (g := (mkF m 135 #[.val (.int i0), .val (.int (2 : Int32)), .val (.ref a1), .val (.ref a_CHAR16), .val (.int (1 : Int32))] [(.ref a_CHAR16)])) rfl (by rw [hml]; rfl) (ps := []) (r := (some .boolean)) (by decide +kernel) rfl rfl (W := 0) (by show 2 * 0 + _ ≤ _; exact Nat.le_of_eq rfl) (hb hby at_135) (by decide) (by decide) (by decide) (by decide)
    have N35 := Fr.app N31 (Fr.nil n0)
    refine own_go st35 ?_
    show own_G p e below _ T35 (mkF m 138 #[.val (.int i0), .val (.int (2 : Int32)), .val (.ref a1), .val (.ref a_CHAR16), .val (.int (1 : Int32))] [(.int (own_isText a_BOOLEAN a_STRING a_CHAR16 a_UINT8 a_SINT8 a_UINT16 a_SINT16 a_UINT32 a_SINT32 a_UINT64 a_SINT64 a_REAL32 a_REAL64 a_DATETIME a_REFERENCE a_CHAR16))])
    have r35 : (own_isText a_BOOLEAN a_STRING a_CHAR16 a_UINT8 a_SINT8 a_UINT16 a_SINT16 a_UINT32 a_SINT32 a_UINT64 a_SINT64 a_REAL32 a_REAL64 a_DATETIME a_REFERENCE a_CHAR16) = (1 : Int32) := by unfold own_isText; rw [if_neg (Fld.ne F_CHAR16_ordinal F_STRING_ordinal (own_neV (by decide))), if_pos (rfl : a_CHAR16 = a_CHAR16)]; rfl
    rw [r35]
    show own_G p e below _ T35 (mkF m 138 #[.val (.int i0), .val (.int (2 : Int32)), .val (.ref a1), .val (.ref a_CHAR16), .val (.int (1 : Int32))] [(.int (1 : Int32))])
    refine own_go (fun t k => XS.iload X35.here hx rfl (hb hby at_138) rfl k) ?_
    show own_G p e below _ T35 (mkF m 140 #[.val (.int i0), .val (.int (2 : Int32)), .val (.ref a1), .val (.ref a_CHAR16), .val (.int (1 : Int32))] [(.int (1 : Int32)), (.int (1 : Int32))])
    refine own_go (fun t k => XS.icmpNo X35.here hx rfl (hb hby at_140) rfl (by decide) k) ?_
    show own_G p e below _ T35 (mkF m 143 #[.val (.int i0), .val (.int (2 : Int32)), .val (.ref a1), .val (.ref a_CHAR16), .val (.int (1 : Int32))] [])
    refine own_go (fun t k => XS.iconst X35.here hx rfl (hb hby at_143) k) ?_
    show own_G p e below _ T35 (mkF m 144 #[.val (.int i0), .val (.int (2 : Int32)), .val (.ref a1), .val (.ref a_CHAR16), .val (.int (1 : Int32))] [(.int (1 : Int32))])
    refine own_go (fun t k => XS.goto X35.here hx rfl (pc0 := 144) (pc' := 148) rfl (hb hby at_144) (by decide) (by decide) k) ?_
    show own_G p e below _ T35 (mkF m 148 #[.val (.int i0), .val (.int (2 : Int32)), .val (.ref a1), .val (.ref a_CHAR16), .val (.int (1 : Int32))] [(.int (1 : Int32))])
    exact own_retN X35 hx hlk hret (by simp) (hb hby at_148) (by decide) (by decide) ⟨rfl, N35⟩
  · rw [hk32]
    show own_G p e below _ T31 (mkF m 113 #[.val (.int i0), .val (.int (3 : Int32)), .val (.ref a1), .unset, .unset] [])
    refine own_go (fun t k => XS.aloadN X31.here hx rfl (hb hby at_113) rfl rfl k) ?_
    show own_G p e below _ T31 (mkF m 114 #[.val (.int i0), .val (.int (3 : Int32)), .val (.ref a1), .unset, .unset] [(.ref a1)])
    refine own_go (fun t k => XS.iloadN X31.here hx rfl (hb hby at_114) rfl k) ?_
    show own_G p e below _ T31 (mkF m 115 #[.val (.int i0), .val (.int (3 : Int32)), .val (.ref a1), .unset, .unset] [(.int (3 : Int32)), (.ref a1)])
    refine own_go (X31.aaload hx (j := (3 : Int32)) (v := (.ref a_UINT8)) (by rw [e31]; exact A31.1) (State.isArrayOf_alike hZ.alike A31.2.1) rfl A31.2.2 (own_in (n := 15) rfl (by decide)) rfl (g := (mkF m 115 #[.val (.int i0), .val (.int (3 : Int32)), .val (.ref a1), .unset, .unset] [(.int (3 : Int32)), (.ref a1)])) rfl rfl (hb hby at_115)) ?_
    show own_G p e below _ T31 (mkF m 116 #[.val (.int i0), .val (.int (3 : Int32)), .val (.ref a1), .unset, .unset] [(.ref a_UINT8)])
    refine own_go (fun t k => XS.astoreN X31.here hx rfl (hb hby at_116) rfl rfl (l' := #[.val (.int i0), .val (.int (3 : Int32)), .val (.ref a1), .val (.ref a_UINT8), .unset]) rfl k) ?_
    show own_G p e below _ T31 (mkF m 117 #[.val (.int i0), .val (.int (3 : Int32)), .val (.ref a1), .val (.ref a_UINT8), .unset] [])
    refine own_go (fun t k => XS.iloadN X31.here hx rfl (hb hby at_117) rfl k) ?_
    show own_G p e below _ T31 (mkF m 118 #[.val (.int i0), .val (.int (3 : Int32)), .val (.ref a1), .val (.ref a_UINT8), .unset] [(.int (3 : Int32))])
    refine own_go (fun t k => XS.iconst X31.here hx rfl (hb hby at_118) k) ?_
    show own_G p e below _ T31 (mkF m 119 #[.val (.int i0), .val (.int (3 : Int32)), .val (.ref a1), .val (.ref a_UINT8), .unset] [(.int (1 : Int32)), (.int (3 : Int32))])
    refine own_go (fun t k => XS.icmpNo X31.here hx rfl (hb hby at_119) rfl (by decide) k) ?_
    show own_G p e below _ T31 (mkF m 122 #[.val (.int i0), .val (.int (3 : Int32)), .val (.ref a1), .val (.ref a_UINT8), .unset] [])
    refine own_go (fun t k => XS.iloadN X31.here hx rfl (hb hby at_122) rfl k) ?_
    show own_G p e below _ T31 (mkF m 123 #[.val (.int i0), .val (.int (3 : Int32)), .val (.ref a1), .val (.ref a_UINT8), .unset] [(.int (3 : Int32))])
    refine own_go (fun t k => XS.iconst X31.here hx rfl (hb hby at_123) k) ?_
    show own_G p e below _ T31 (mkF m 124 #[.val (.int i0), .val (.int (3 : Int32)), .val (.ref a1), .val (.ref a_UINT8), .unset] [(.int (2 : Int32)), (.int (3 : Int32))])
    refine own_go (fun t k => XS.icmpYes X31.here hx rfl (pc0 := 124) (pc' := 131) rfl (hb hby at_124) rfl (by decide) (by decide) (by decide) k) ?_
    show own_G p e below _ T31 (mkF m 131 #[.val (.int i0), .val (.int (3 : Int32)), .val (.ref a1), .val (.ref a_UINT8), .unset] [])
    refine own_go (fun t k => XS.iconst X31.here hx rfl (hb hby at_131) k) ?_
    show own_G p e below _ T31 (mkF m 132 #[.val (.int i0), .val (.int (3 : Int32)), .val (.ref a1), .val (.ref a_UINT8), .unset] [(.int (0 : Int32))])
    refine own_go (fun t k => XS.istore X31.here hx rfl (hb hby at_132) rfl (l' := #[.val (.int i0), .val (.int (3 : Int32)), .val (.ref a1), .val (.ref a_UINT8), .val (.int (0 : Int32))]) rfl k) ?_
    show own_G p e below _ T31 (mkF m 134 #[.val (.int i0), .val (.int (3 : Int32)), .val (.ref a1), .val (.ref a_UINT8), .val (.int (0 : Int32))] [])
    refine own_go (fun t k => XS.aloadN X31.here hx rfl (hb hby at_134) rfl rfl k) ?_
    show own_G p e below _ T31 (mkF m 135 #[.val (.int i0), .val (.int (3 : Int32)), .val (.ref a1), .val (.ref a_UINT8), .val (.int (0 : Int32))] [(.ref a_UINT8)])
    obtain ⟨T36, L36, v36, X36, ⟨rfl, rfl, q36⟩, st36⟩ := own_callV X31 hx hZ (y := (⟨"com/example/quern/quern/model/CimType", "isText", "()Z"⟩ : MethodName)) (z := (⟨"com/example/quern/quern/model/CimType", "isText", "()Z"⟩ : MethodName)) hown (hw _ (List.mem_of_getElem? (i := 35) rfl)) (hw _ (List.mem_of_getElem? (i := 36) rfl)) (hw _ (List.mem_of_getElem? (i := 38) rfl)) (hw _ (List.mem_of_getElem? (i := 38) rfl)) (hw _ (List.mem_of_getElem? (i := 37) rfl)) (hw _ (List.mem_of_getElem? (i := 39) rfl)) (hw _ (List.mem_of_getElem? (i := 4) rfl)) (notFace_of_selects (args := #[]) (mvT hZ (hw _ (List.mem_of_getElem? (i := 38) rfl)))) (by decide) (c_isText l Z a0 hw a_BOOLEAN a_STRING a_CHAR16 a_UINT8 a_SINT8 a_UINT16 a_SINT16 a_UINT32 a_SINT32 a_UINT64 a_SINT64 a_REAL32 a_REAL64 a_DATETIME a_REFERENCE a_UINT8 h31 (own_B_ext x31 B) ) e31 (E_UINT8.ext x31) (argsL := []) (rest := []) (g := (mkF m 135 #[.val (.int i0), .val (.int (3 : Int32)), .val (.ref a1), .val (.ref a_UINT8), .val (.int (0 : Int32))] [(.ref a_UINT8)])) rfl (by rw [hml]; rfl) (ps := []) (r := (some .boolean)) (by decide +kernel) rfl rfl (W := 0) (by show 2 * 0 + _ ≤ _; exact Nat.le_of_eq rfl) (hb hby at_135) (by decide) (by decide) (by decide) (by decide)
    have N36 := Fr.app N31 (Fr.nil n0)
    refine own_go st36 ?_
    show own_G p e below _ T36 (mkF m 138 #[.val (.int i0), .val (.int (3 : Int32)), .val (.ref a1), .val (.ref a_UINT8), .val (.int (0 : Int32))] [(.int (own_isText a_BOOLEAN a_STRING a_CHAR16 a_UINT8 a_SINT8 a_UINT16 a_SINT16 a_UINT32 a_SINT32 a_UINT64 a_SINT64 a_REAL32 a_REAL64 a_DATETIME a_REFERENCE a_UINT8))])
    have r36 : (own_isText a_BOOLEAN a_STRING a_CHAR16 a_UINT8 a_SINT8 a_UINT16 a_SINT16 a_UINT32 a_SINT32 a_UINT64 a_SINT64 a_REAL32 a_REAL64 a_DATETIME a_REFERENCE a_UINT8) = (0 : Int32) := by unfold own_isText; rw [if_neg (Fld.ne F_UINT8_ordinal F_STRING_ordinal (own_neV (by decide))), if_neg (Fld.ne F_UINT8_ordinal F_CHAR16_ordinal (own_neV (by decide)))]; rfl
    rw [r36]
    show own_G p e below _ T36 (mkF m 138 #[.val (.int i0), .val (.int (3 : Int32)), .val (.ref a1), .val (.ref a_UINT8), .val (.int (0 : Int32))] [(.int (0 : Int32))])
    refine own_go (fun t k => XS.iload X36.here hx rfl (hb hby at_138) rfl k) ?_
    show own_G p e below _ T36 (mkF m 140 #[.val (.int i0), .val (.int (3 : Int32)), .val (.ref a1), .val (.ref a_UINT8), .val (.int (0 : Int32))] [(.int (0 : Int32)), (.int (0 : Int32))])
    refine own_go (fun t k => XS.icmpNo X36.here hx rfl (hb hby at_140) rfl (by decide) k) ?_
    show own_G p e below _ T36 (mkF m 143 #[.val (.int i0), .val (.int (3 : Int32)), .val (.ref a1), .val (.ref a_UINT8), .val (.int (0 : Int32))] [])
    refine own_go (fun t k => XS.iconst X36.here hx rfl (hb hby at_143) k) ?_
    show own_G p e below _ T36 (mkF m 144 #[.val (.int i0), .val (.int (3 : Int32)), .val (.ref a1), .val (.ref a_UINT8), .val (.int (0 : Int32))] [(.int (1 : Int32))])
    refine own_go (fun t k => XS.goto X36.here hx rfl (pc0 := 144) (pc' := 148) rfl (hb hby at_144) (by decide) (by decide) k) ?_
    show own_G p e below _ T36 (mkF m 148 #[.val (.int i0), .val (.int (3 : Int32)), .val (.ref a1), .val (.ref a_UINT8), .val (.int (0 : Int32))] [(.int (1 : Int32))])
    exact own_retN X36 hx hlk hret (by simp) (hb hby at_148) (by decide) (by decide) ⟨rfl, N36⟩
  · rw [hk32]
    show own_G p e below _ T31 (mkF m 113 #[.val (.int i0), .val (.int (4 : Int32)), .val (.ref a1), .unset, .unset] [])
    refine own_go (fun t k => XS.aloadN X31.here hx rfl (hb hby at_113) rfl rfl k) ?_
    show own_G p e below _ T31 (mkF m 114 #[.val (.int i0), .val (.int (4 : Int32)), .val (.ref a1), .unset, .unset] [(.ref a1)])
    refine own_go (fun t k => XS.iloadN X31.here hx rfl (hb hby at_114) rfl k) ?_
    show own_G p e below _ T31 (mkF m 115 #[.val (.int i0), .val (.int (4 : Int32)), .val (.ref a1), .unset, .unset] [(.int (4 : Int32)), (.ref a1)])
    refine own_go (X31.aaload hx (j := (4 : Int32)) (v := (.ref a_SINT8)) (by rw [e31]; exact A31.1) (State.isArrayOf_alike hZ.alike A31.2.1) rfl A31.2.2 (own_in (n := 15) rfl (by decide)) rfl (g := (mkF m 115 #[.val (.int i0), .val (.int (4 : Int32)), .val (.ref a1), .unset, .unset] [(.int (4 : Int32)), (.ref a1)])) rfl rfl (hb hby at_115)) ?_
    show own_G p e below _ T31 (mkF m 116 #[.val (.int i0), .val (.int (4 : Int32)), .val (.ref a1), .unset, .unset] [(.ref a_SINT8)])
    refine own_go (fun t k => XS.astoreN X31.here hx rfl (hb hby at_116) rfl rfl (l' := #[.val (.int i0), .val (.int (4 : Int32)), .val (.ref a1), .val (.ref a_SINT8), .unset]) rfl k) ?_
    show own_G p e below _ T31 (mkF m 117 #[.val (.int i0), .val (.int (4 : Int32)), .val (.ref a1), .val (.ref a_SINT8), .unset] [])
    refine own_go (fun t k => XS.iloadN X31.here hx rfl (hb hby at_117) rfl k) ?_
    show own_G p e below _ T31 (mkF m 118 #[.val (.int i0), .val (.int (4 : Int32)), .val (.ref a1), .val (.ref a_SINT8), .unset] [(.int (4 : Int32))])
    refine own_go (fun t k => XS.iconst X31.here hx rfl (hb hby at_118) k) ?_
    show own_G p e below _ T31 (mkF m 119 #[.val (.int i0), .val (.int (4 : Int32)), .val (.ref a1), .val (.ref a_SINT8), .unset] [(.int (1 : Int32)), (.int (4 : Int32))])
    refine own_go (fun t k => XS.icmpNo X31.here hx rfl (hb hby at_119) rfl (by decide) k) ?_
    show own_G p e below _ T31 (mkF m 122 #[.val (.int i0), .val (.int (4 : Int32)), .val (.ref a1), .val (.ref a_SINT8), .unset] [])
    refine own_go (fun t k => XS.iloadN X31.here hx rfl (hb hby at_122) rfl k) ?_
    show own_G p e below _ T31 (mkF m 123 #[.val (.int i0), .val (.int (4 : Int32)), .val (.ref a1), .val (.ref a_SINT8), .unset] [(.int (4 : Int32))])
    refine own_go (fun t k => XS.iconst X31.here hx rfl (hb hby at_123) k) ?_
    show own_G p e below _ T31 (mkF m 124 #[.val (.int i0), .val (.int (4 : Int32)), .val (.ref a1), .val (.ref a_SINT8), .unset] [(.int (2 : Int32)), (.int (4 : Int32))])
    refine own_go (fun t k => XS.icmpYes X31.here hx rfl (pc0 := 124) (pc' := 131) rfl (hb hby at_124) rfl (by decide) (by decide) (by decide) k) ?_
    show own_G p e below _ T31 (mkF m 131 #[.val (.int i0), .val (.int (4 : Int32)), .val (.ref a1), .val (.ref a_SINT8), .unset] [])
    refine own_go (fun t k => XS.iconst X31.here hx rfl (hb hby at_131) k) ?_
    show own_G p e below _ T31 (mkF m 132 #[.val (.int i0), .val (.int (4 : Int32)), .val (.ref a1), .val (.ref a_SINT8), .unset] [(.int (0 : Int32))])
    refine own_go (fun t k => XS.istore X31.here hx rfl (hb hby at_132) rfl (l' := #[.val (.int i0), .val (.int (4 : Int32)), .val (.ref a1), .val (.ref a_SINT8), .val (.int (0 : Int32))]) rfl k) ?_
    show own_G p e below _ T31 (mkF m 134 #[.val (.int i0), .val (.int (4 : Int32)), .val (.ref a1), .val (.ref a_SINT8), .val (.int (0 : Int32))] [])
    refine own_go (fun t k => XS.aloadN X31.here hx rfl (hb hby at_134) rfl rfl k) ?_
    show own_G p e below _ T31 (mkF m 135 #[.val (.int i0), .val (.int (4 : Int32)), .val (.ref a1), .val (.ref a_SINT8), .val (.int (0 : Int32))] [(.ref a_SINT8)])
    obtain ⟨T37, L37, v37, X37, ⟨rfl, rfl, q37⟩, st37⟩ := own_callV X31 hx hZ (y := (⟨"com/example/quern/quern/model/CimType", "isText", "()Z"⟩ : MethodName)) (z := (⟨"com/example/quern/quern/model/CimType", "isText", "()Z"⟩ : MethodName)) hown (hw _ (List.mem_of_getElem? (i := 35) rfl)) (hw _ (List.mem_of_getElem? (i := 36) rfl)) (hw _ (List.mem_of_getElem? (i := 38) rfl)) (hw _ (List.mem_of_getElem? (i := 38) rfl)) (hw _ (List.mem_of_getElem? (i := 37) rfl)) (hw _ (List.mem_of_getElem? (i := 39) rfl)) (hw _ (List.mem_of_getElem? (i := 4) rfl)) (notFace_of_selects (args := #[]) (mvT hZ (hw _ (List.mem_of_getElem? (i := 38) rfl)))) (by decide) (c_isText l Z a0 hw a_BOOLEAN a_STRING a_CHAR16 a_UINT8 a_SINT8 a_UINT16 a_SINT16 a_UINT32 a_SINT32 a_UINT64 a_SINT64 a_REAL32 a_REAL64 a_DATETIME a_REFERENCE a_SINT8 h31 (own_B_ext x31 B) ) e31 (E_SINT8.ext x31) (argsL := []) (rest := []) (g := (mkF m 135 #[.val (.int i0), .val (.int (4 : Int32)), .val (.ref a1), .val (.ref a_SINT8), .val (.int (0 : Int32))] [(.ref a_SINT8)])) rfl (by rw [hml]; rfl) (ps := []) (r := (some .boolean)) (by decide +kernel) rfl rfl (W := 0) (by show 2 * 0 + _ ≤ _; exact Nat.le_of_eq rfl) (hb hby at_135) (by decide) (by decide) (by decide) (by decide)
    have N37 := Fr.app N31 (Fr.nil n0)
    refine own_go st37 ?_
    show own_G p e below _ T37 (mkF m 138 #[.val (.int i0), .val (.int (4 : Int32)), .val (.ref a1), .val (.ref a_SINT8), .val (.int (0 : Int32))] [(.int (own_isText a_BOOLEAN a_STRING a_CHAR16 a_UINT8 a_SINT8 a_UINT16 a_SINT16 a_UINT32 a_SINT32 a_UINT64 a_SINT64 a_REAL32 a_REAL64 a_DATETIME a_REFERENCE a_SINT8))])
    have r37 : (own_isText a_BOOLEAN a_STRING a_CHAR16 a_UINT8 a_SINT8 a_UINT16 a_SINT16 a_UINT32 a_SINT32 a_UINT64 a_SINT64 a_REAL32 a_REAL64 a_DATETIME a_REFERENCE a_SINT8) = (0 : Int32) := by unfold own_isText; rw [if_neg (Fld.ne F_SINT8_ordinal F_STRING_ordinal (own_neV (by decide))), if_neg (Fld.ne F_SINT8_ordinal F_CHAR16_ordinal (own_neV (by decide)))]; rfl
    rw [r37]
    show own_G p e below _ T37 (mkF m 138 #[.val (.int i0), .val (.int (4 : Int32)), .val (.ref a1), .val (.ref a_SINT8), .val (.int (0 : Int32))] [(.int (0 : Int32))])
    refine own_go (fun t k => XS.iload X37.here hx rfl (hb hby at_138) rfl k) ?_
    show own_G p e below _ T37 (mkF m 140 #[.val (.int i0), .val (.int (4 : Int32)), .val (.ref a1), .val (.ref a_SINT8), .val (.int (0 : Int32))] [(.int (0 : Int32)), (.int (0 : Int32))])
    refine own_go (fun t k => XS.icmpNo X37.here hx rfl (hb hby at_140) rfl (by decide) k) ?_
    show own_G p e below _ T37 (mkF m 143 #[.val (.int i0), .val (.int (4 : Int32)), .val (.ref a1), .val (.ref a_SINT8), .val (.int (0 : Int32))] [])
    refine own_go (fun t k => XS.iconst X37.here hx rfl (hb hby at_143) k) ?_
    show own_G p e below _ T37 (mkF m 144 #[.val (.int i0), .val (.int (4 : Int32)), .val (.ref a1), .val (.ref a_SINT8), .val (.int (0 : Int32))] [(.int (1 : Int32))])
    refine own_go (fun t k => XS.goto X37.here hx rfl (pc0 := 144) (pc' := 148) rfl (hb hby at_144) (by decide) (by decide) k) ?_
    show own_G p e below _ T37 (mkF m 148 #[.val (.int i0), .val (.int (4 : Int32)), .val (.ref a1), .val (.ref a_SINT8), .val (.int (0 : Int32))] [(.int (1 : Int32))])
    exact own_retN X37 hx hlk hret (by simp) (hb hby at_148) (by decide) (by decide) ⟨rfl, N37⟩
  · rw [hk32]
    show own_G p e below _ T31 (mkF m 113 #[.val (.int i0), .val (.int (5 : Int32)), .val (.ref a1), .unset, .unset] [])
    refine own_go (fun t k => XS.aloadN X31.here hx rfl (hb hby at_113) rfl rfl k) ?_
    show own_G p e below _ T31 (mkF m 114 #[.val (.int i0), .val (.int (5 : Int32)), .val (.ref a1), .unset, .unset] [(.ref a1)])
    refine own_go (fun t k => XS.iloadN X31.here hx rfl (hb hby at_114) rfl k) ?_
    show own_G p e below _ T31 (mkF m 115 #[.val (.int i0), .val (.int (5 : Int32)), .val (.ref a1), .unset, .unset] [(.int (5 : Int32)), (.ref a1)])
    refine own_go (X31.aaload hx (j := (5 : Int32)) (v := (.ref a_UINT16)) (by rw [e31]; exact A31.1) (State.isArrayOf_alike hZ.alike A31.2.1) rfl A31.2.2 (own_in (n := 15) rfl (by decide)) rfl (g := (mkF m 115 #[.val (.int i0), .val (.int (5 : Int32)), .val (.ref a1), .unset, .unset] [(.int (5 : Int32)), (.ref a1)])) rfl rfl (hb hby at_115)) ?_
    show own_G p e below _ T31 (mkF m 116 #[.val (.int i0), .val (.int (5 : Int32)), .val (.ref a1), .unset, .unset] [(.ref a_UINT16)])
    refine own_go (fun t k => XS.astoreN X31.here hx rfl (hb hby at_116) rfl rfl (l' := #[.val (.int i0), .val (.int (5 : Int32)), .val (.ref a1), .val (.ref a_UINT16), .unset]) rfl k) ?_
    show own_G p e below _ T31 (mkF m 117 #[.val (.int i0), .val (.int (5 : Int32)), .val (.ref a1), .val (.ref a_UINT16), .unset] [])
    refine own_go (fun t k => XS.iloadN X31.here hx rfl (hb hby at_117) rfl k) ?_
    show own_G p e below _ T31 (mkF m 118 #[.val (.int i0), .val (.int (5 : Int32)), .val (.ref a1), .val (.ref a_UINT16), .unset] [(.int (5 : Int32))])
    refine own_go (fun t k => XS.iconst X31.here hx rfl (hb hby at_118) k) ?_
    show own_G p e below _ T31 (mkF m 119 #[.val (.int i0), .val (.int (5 : Int32)), .val (.ref a1), .val (.ref a_UINT16), .unset] [(.int (1 : Int32)), (.int (5 : Int32))])
    refine own_go (fun t k => XS.icmpNo X31.here hx rfl (hb hby at_119) rfl (by decide) k) ?_
    show own_G p e below _ T31 (mkF m 122 #[.val (.int i0), .val (.int (5 : Int32)), .val (.ref a1), .val (.ref a_UINT16), .unset] [])
    refine own_go (fun t k => XS.iloadN X31.here hx rfl (hb hby at_122) rfl k) ?_
    show own_G p e below _ T31 (mkF m 123 #[.val (.int i0), .val (.int (5 : Int32)), .val (.ref a1), .val (.ref a_UINT16), .unset] [(.int (5 : Int32))])
    refine own_go (fun t k => XS.iconst X31.here hx rfl (hb hby at_123) k) ?_
    show own_G p e below _ T31 (mkF m 124 #[.val (.int i0), .val (.int (5 : Int32)), .val (.ref a1), .val (.ref a_UINT16), .unset] [(.int (2 : Int32)), (.int (5 : Int32))])
    refine own_go (fun t k => XS.icmpYes X31.here hx rfl (pc0 := 124) (pc' := 131) rfl (hb hby at_124) rfl (by decide) (by decide) (by decide) k) ?_
    show own_G p e below _ T31 (mkF m 131 #[.val (.int i0), .val (.int (5 : Int32)), .val (.ref a1), .val (.ref a_UINT16), .unset] [])
    refine own_go (fun t k => XS.iconst X31.here hx rfl (hb hby at_131) k) ?_
    show own_G p e below _ T31 (mkF m 132 #[.val (.int i0), .val (.int (5 : Int32)), .val (.ref a1), .val (.ref a_UINT16), .unset] [(.int (0 : Int32))])
    refine own_go (fun t k => XS.istore X31.here hx rfl (hb hby at_132) rfl (l' := #[.val (.int i0), .val (.int (5 : Int32)), .val (.ref a1), .val (.ref a_UINT16), .val (.int (0 : Int32))]) rfl k) ?_
    show own_G p e below _ T31 (mkF m 134 #[.val (.int i0), .val (.int (5 : Int32)), .val (.ref a1), .val (.ref a_UINT16), .val (.int (0 : Int32))] [])
    refine own_go (fun t k => XS.aloadN X31.here hx rfl (hb hby at_134) rfl rfl k) ?_
    show own_G p e below _ T31 (mkF m 135 #[.val (.int i0), .val (.int (5 : Int32)), .val (.ref a1), .val (.ref a_UINT16), .val (.int (0 : Int32))] [(.ref a_UINT16)])
    obtain ⟨T38, L38, v38, X38, ⟨rfl, rfl, q38⟩, st38⟩ := own_callV X31 hx hZ (y := (⟨"com/example/quern/quern/model/CimType", "isText", "()Z"⟩ : MethodName)) (z := (⟨"com/example/quern/quern/model/CimType", "isText", "()Z"⟩ : MethodName)) hown (hw _ (List.mem_of_getElem? (i := 35) rfl)) (hw _ (List.mem_of_getElem? (i := 36) rfl)) (hw _ (List.mem_of_getElem? (i := 38) rfl)) (hw _ (List.mem_of_getElem? (i := 38) rfl)) (hw _ (List.mem_of_getElem? (i := 37) rfl)) (hw _ (List.mem_of_getElem? (i := 39) rfl)) (hw _ (List.mem_of_getElem? (i := 4) rfl)) (notFace_of_selects (args := #[]) (mvT hZ (hw _ (List.mem_of_getElem? (i := 38) rfl)))) (by decide) (c_isText l Z a0 hw a_BOOLEAN a_STRING a_CHAR16 a_UINT8 a_SINT8 a_UINT16 a_SINT16 a_UINT32 a_SINT32 a_UINT64 a_SINT64 a_REAL32 a_REAL64 a_DATETIME a_REFERENCE a_UINT16 h31 (own_B_ext x31 B) ) e31 (E_UINT16.ext x31) (argsL := []) (rest := []) (g := (mkF m 135 #[.val (.int i0), .val (.int (5 : Int32)), .val (.ref a1), .val (.ref a_UINT16), .val (.int (0 : Int32))] [(.ref a_UINT16)])) rfl (by rw [hml]; rfl) (ps := []) (r := (some .boolean)) (by decide +kernel) rfl rfl (W := 0) (by show 2 * 0 + _ ≤ _; exact Nat.le_of_eq rfl) (hb hby at_135) (by decide) (by decide) (by decide) (by decide)
    have N38 := Fr.app N31 (Fr.nil n0)
    refine own_go st38 ?_
    show own_G p e below _ T38 (mkF m 138 #[.val (.int i0), .val (.int (5 : Int32)), .val (.ref a1), .val (.ref a_UINT16), .val (.int (0 : Int32))] [(.int (own_isText a_BOOLEAN a_STRING a_CHAR16 a_UINT8 a_SINT8 a_UINT16 a_SINT16 a_UINT32 a_SINT32 a_UINT64 a_SINT64 a_REAL32 a_REAL64 a_DATETIME a_REFERENCE a_UINT16))])
    have r38 : (own_isText a_BOOLEAN a_STRING a_CHAR16 a_UINT8 a_SINT8 a_UINT16 a_SINT16 a_UINT32 a_SINT32 a_UINT64 a_SINT64 a_REAL32 a_REAL64 a_DATETIME a_REFERENCE a_UINT16) = (0 : Int32) := by unfold own_isText; rw [if_neg (Fld.ne F_UINT16_ordinal F_STRING_ordinal (own_neV (by decide))), if_neg (Fld.ne F_UINT16_ordinal F_CHAR16_ordinal (own_neV (by decide)))]; rfl
    rw [r38]
    show own_G p e below _ T38 (mkF m 138 #[.val (.int i0), .val (.int (5 : Int32)), .val (.ref a1), .val (.ref a_UINT16), .val (.int (0 : Int32))] [(.int (0 : Int32))])
    refine own_go (fun t k => XS.iload X38.here hx rfl (hb hby at_138) rfl k) ?_
    show own_G p e below _ T38 (mkF m 140 #[.val (.int i0), .val (.int (5 : Int32)), .val (.ref a1), .val (.ref a_UINT16), .val (.int (0 : Int32))] [(.int (0 : Int32)), (.int (0 : Int32))])
    refine own_go (fun t k => XS.icmpNo X38.here hx rfl (hb hby at_140) rfl (by decide) k) ?_
    show own_G p e below _ T38 (mkF m 143 #[.val (.int i0), .val (.int (5 : Int32)), .val (.ref a1), .val (.ref a_UINT16), .val (.int (0 : Int32))] [])
    refine own_go (fun t k => XS.iconst X38.here hx rfl (hb hby at_143) k) ?_
    show own_G p e below _ T38 (mkF m 144 #[.val (.int i0), .val (.int (5 : Int32)), .val (.ref a1), .val (.ref a_UINT16), .val (.int (0 : Int32))] [(.int (1 : Int32))])
    refine own_go (fun t k => XS.goto X38.here hx rfl (pc0 := 144) (pc' := 148) rfl (hb hby at_144) (by decide) (by decide) k) ?_
    show own_G p e below _ T38 (mkF m 148 #[.val (.int i0), .val (.int (5 : Int32)), .val (.ref a1), .val (.ref a_UINT16), .val (.int (0 : Int32))] [(.int (1 : Int32))])
    exact own_retN X38 hx hlk hret (by simp) (hb hby at_148) (by decide) (by decide) ⟨rfl, N38⟩
  · rw [hk32]
    show own_G p e below _ T31 (mkF m 113 #[.val (.int i0), .val (.int (6 : Int32)), .val (.ref a1), .unset, .unset] [])
    refine own_go (fun t k => XS.aloadN X31.here hx rfl (hb hby at_113) rfl rfl k) ?_
    show own_G p e below _ T31 (mkF m 114 #[.val (.int i0), .val (.int (6 : Int32)), .val (.ref a1), .unset, .unset] [(.ref a1)])
    refine own_go (fun t k => XS.iloadN X31.here hx rfl (hb hby at_114) rfl k) ?_
    show own_G p e below _ T31 (mkF m 115 #[.val (.int i0), .val (.int (6 : Int32)), .val (.ref a1), .unset, .unset] [(.int (6 : Int32)), (.ref a1)])
    refine own_go (X31.aaload hx (j := (6 : Int32)) (v := (.ref a_SINT16)) (by rw [e31]; exact A31.1) (State.isArrayOf_alike hZ.alike A31.2.1) rfl A31.2.2 (own_in (n := 15) rfl (by decide)) rfl (g := (mkF m 115 #[.val (.int i0), .val (.int (6 : Int32)), .val (.ref a1), .unset, .unset] [(.int (6 : Int32)), (.ref a1)])) rfl rfl (hb hby at_115)) ?_
    show own_G p e below _ T31 (mkF m 116 #[.val (.int i0), .val (.int (6 : Int32)), .val (.ref a1), .unset, .unset] [(.ref a_SINT16)])
    refine own_go (fun t k => XS.astoreN X31.here hx rfl (hb hby at_116) rfl rfl (l' := #[.val (.int i0), .val (.int (6 : Int32)), .val (.ref a1), .val (.ref a_SINT16), .unset]) rfl k) ?_
    show own_G p e below _ T31 (mkF m 117 #[.val (.int i0), .val (.int (6 : Int32)), .val (.ref a1), .val (.ref a_SINT16), .unset] [])
    refine own_go (fun t k => XS.iloadN X31.here hx rfl (hb hby at_117) rfl k) ?_
    show own_G p e below _ T31 (mkF m 118 #[.val (.int i0), .val (.int (6 : Int32)), .val (.ref a1), .val (.ref a_SINT16), .unset] [(.int (6 : Int32))])
    refine own_go (fun t k => XS.iconst X31.here hx rfl (hb hby at_118) k) ?_
    show own_G p e below _ T31 (mkF m 119 #[.val (.int i0), .val (.int (6 : Int32)), .val (.ref a1), .val (.ref a_SINT16), .unset] [(.int (1 : Int32)), (.int (6 : Int32))])
    refine own_go (fun t k => XS.icmpNo X31.here hx rfl (hb hby at_119) rfl (by decide) k) ?_
    show own_G p e below _ T31 (mkF m 122 #[.val (.int i0), .val (.int (6 : Int32)), .val (.ref a1), .val (.ref a_SINT16), .unset] [])
    refine own_go (fun t k => XS.iloadN X31.here hx rfl (hb hby at_122) rfl k) ?_
    show own_G p e below _ T31 (mkF m 123 #[.val (.int i0), .val (.int (6 : Int32)), .val (.ref a1), .val (.ref a_SINT16), .unset] [(.int (6 : Int32))])
    refine own_go (fun t k => XS.iconst X31.here hx rfl (hb hby at_123) k) ?_
    show own_G p e below _ T31 (mkF m 124 #[.val (.int i0), .val (.int (6 : Int32)), .val (.ref a1), .val (.ref a_SINT16), .unset] [(.int (2 : Int32)), (.int (6 : Int32))])
    refine own_go (fun t k => XS.icmpYes X31.here hx rfl (pc0 := 124) (pc' := 131) rfl (hb hby at_124) rfl (by decide) (by decide) (by decide) k) ?_
    show own_G p e below _ T31 (mkF m 131 #[.val (.int i0), .val (.int (6 : Int32)), .val (.ref a1), .val (.ref a_SINT16), .unset] [])
    refine own_go (fun t k => XS.iconst X31.here hx rfl (hb hby at_131) k) ?_
    show own_G p e below _ T31 (mkF m 132 #[.val (.int i0), .val (.int (6 : Int32)), .val (.ref a1), .val (.ref a_SINT16), .unset] [(.int (0 : Int32))])
    refine own_go (fun t k => XS.istore X31.here hx rfl (hb hby at_132) rfl (l' := #[.val (.int i0), .val (.int (6 : Int32)), .val (.ref a1), .val (.ref a_SINT16), .val (.int (0 : Int32))]) rfl k) ?_
    show own_G p e below _ T31 (mkF m 134 #[.val (.int i0), .val (.int (6 : Int32)), .val (.ref a1), .val (.ref a_SINT16), .val (.int (0 : Int32))] [])
    refine own_go (fun t k => XS.aloadN X31.here hx rfl (hb hby at_134) rfl rfl k) ?_
    show own_G p e below _ T31 (mkF m 135 #[.val (.int i0), .val (.int (6 : Int32)), .val (.ref a1), .val (.ref a_SINT16), .val (.int (0 : Int32))] [(.ref a_SINT16)])
    obtain ⟨T39, L39, v39, X39, ⟨rfl, rfl, q39⟩, st39⟩ := own_callV X31 hx hZ (y := (⟨"com/example/quern/quern/model/CimType", "isText", "()Z"⟩ : MethodName)) (z := (⟨"com/example/quern/quern/model/CimType", "isText", "()Z"⟩ : MethodName)) hown (hw _ (List.mem_of_getElem? (i := 35) rfl)) (hw _ (List.mem_of_getElem? (i := 36) rfl)) (hw _ (List.mem_of_getElem? (i := 38) rfl)) (hw _ (List.mem_of_getElem? (i := 38) rfl)) (hw _ (List.mem_of_getElem? (i := 37) rfl)) (hw _ (List.mem_of_getElem? (i := 39) rfl)) (hw _ (List.mem_of_getElem? (i := 4) rfl)) (notFace_of_selects (args := #[]) (mvT hZ (hw _ (List.mem_of_getElem? (i := 38) rfl)))) (by decide) (c_isText l Z a0 hw a_BOOLEAN a_STRING a_CHAR16 a_UINT8 a_SINT8 a_UINT16 a_SINT16 a_UINT32 a_SINT32 a_UINT64 a_SINT64 a_REAL32 a_REAL64 a_DATETIME a_REFERENCE a_SINT16 h31 (own_B_ext x31 B) ) e31 (E_SINT16.ext x31) (argsL := []) (rest := []) (g := (mkF m 135 #[.val (.int i0), .val (.int (6 : Int32)), .val (.ref a1), .val (.ref a_SINT16), .val (.int (0 : Int32))] [(.ref a_SINT16)])) rfl (by rw [hml]; rfl) (ps := []) (r := (some .boolean)) (by decide +kernel) rfl rfl (W := 0) (by show 2 * 0 + _ ≤ _; exact Nat.le_of_eq rfl) (hb hby at_135) (by decide) (by decide) (by decide) (by decide)
    have N39 := Fr.app N31 (Fr.nil n0)
    refine own_go st39 ?_
    show own_G p e below _ T39 (mkF m 138 #[.val (.int i0), .val (.int (6 : Int32)), .val (.ref a1), .val (.ref a_SINT16), .val (.int (0 : Int32))] [(.int (own_isText a_BOOLEAN a_STRING a_CHAR16 a_UINT8 a_SINT8 a_UINT16 a_SINT16 a_UINT32 a_SINT32 a_UINT64 a_SINT64 a_REAL32 a_REAL64 a_DATETIME a_REFERENCE a_SINT16))])
    have r39 : (own_isText a_BOOLEAN a_STRING a_CHAR16 a_UINT8 a_SINT8 a_UINT16 a_SINT16 a_UINT32 a_SINT32 a_UINT64 a_SINT64 a_REAL32 a_REAL64 a_DATETIME a_REFERENCE a_SINT16) = (0 : Int32) := by unfold own_isText; rw [if_neg (Fld.ne F_SINT16_ordinal F_STRING_ordinal (own_neV (by decide))), if_neg (Fld.ne F_SINT16_ordinal F_CHAR16_ordinal (own_neV (by decide)))]; rfl
    rw [r39]
    show own_G p e below _ T39 (mkF m 138 #[.val (.int i0), .val (.int (6 : Int32)), .val (.ref a1), .val (.ref a_SINT16), .val (.int (0 : Int32))] [(.int (0 : Int32))])
    refine own_go (fun t k => XS.iload X39.here hx rfl (hb hby at_138) rfl k) ?_
    show own_G p e below _ T39 (mkF m 140 #[.val (.int i0), .val (.int (6 : Int32)), .val (.ref a1), .val (.ref a_SINT16), .val (.int (0 : Int32))] [(.int (0 : Int32)), (.int (0 : Int32))])
    refine own_go (fun t k => XS.icmpNo X39.here hx rfl (hb hby at_140) rfl (by decide) k) ?_
    show own_G p e below _ T39 (mkF m 143 #[.val (.int i0), .val (.int (6 : Int32)), .val (.ref a1), .val (.ref a_SINT16), .val (.int (0 : Int32))] [])
    refine own_go (fun t k => XS.iconst X39.here hx rfl (hb hby at_143) k) ?_
    show own_G p e below _ T39 (mkF m 144 #[.val (.int i0), .val (.int (6 : Int32)), .val (.ref a1), .val (.ref a_SINT16), .val (.int (0 : Int32))] [(.int (1 : Int32))])
    refine own_go (fun t k => XS.goto X39.here hx rfl (pc0 := 144) (pc' := 148) rfl (hb hby at_144) (by decide) (by decide) k) ?_
    show own_G p e below _ T39 (mkF m 148 #[.val (.int i0), .val (.int (6 : Int32)), .val (.ref a1), .val (.ref a_SINT16), .val (.int (0 : Int32))] [(.int (1 : Int32))])
    exact own_retN X39 hx hlk hret (by simp) (hb hby at_148) (by decide) (by decide) ⟨rfl, N39⟩
  · rw [hk32]
    show own_G p e below _ T31 (mkF m 113 #[.val (.int i0), .val (.int (7 : Int32)), .val (.ref a1), .unset, .unset] [])
    refine own_go (fun t k => XS.aloadN X31.here hx rfl (hb hby at_113) rfl rfl k) ?_
    show own_G p e below _ T31 (mkF m 114 #[.val (.int i0), .val (.int (7 : Int32)), .val (.ref a1), .unset, .unset] [(.ref a1)])
    refine own_go (fun t k => XS.iloadN X31.here hx rfl (hb hby at_114) rfl k) ?_
    show own_G p e below _ T31 (mkF m 115 #[.val (.int i0), .val (.int (7 : Int32)), .val (.ref a1), .unset, .unset] [(.int (7 : Int32)), (.ref a1)])
    refine own_go (X31.aaload hx (j := (7 : Int32)) (v := (.ref a_UINT32)) (by rw [e31]; exact A31.1) (State.isArrayOf_alike hZ.alike A31.2.1) rfl A31.2.2 (own_in (n := 15) rfl (by decide)) rfl (g := (mkF m 115 #[.val (.int i0), .val (.int (7 : Int32)), .val (.ref a1), .unset, .unset] [(.int (7 : Int32)), (.ref a1)])) rfl rfl (hb hby at_115)) ?_
    show own_G p e below _ T31 (mkF m 116 #[.val (.int i0), .val (.int (7 : Int32)), .val (.ref a1), .unset, .unset] [(.ref a_UINT32)])
    refine own_go (fun t k => XS.astoreN X31.here hx rfl (hb hby at_116) rfl rfl (l' := #[.val (.int i0), .val (.int (7 : Int32)), .val (.ref a1), .val (.ref a_UINT32), .unset]) rfl k) ?_
    show own_G p e below _ T31 (mkF m 117 #[.val (.int i0), .val (.int (7 : Int32)), .val (.ref a1), .val (.ref a_UINT32), .unset] [])
    refine own_go (fun t k => XS.iloadN X31.here hx rfl (hb hby at_117) rfl k) ?_
    show own_G p e below _ T31 (mkF m 118 #[.val (.int i0), .val (.int (7 : Int32)), .val (.ref a1), .val (.ref a_UINT32), .unset] [(.int (7 : Int32))])
    refine own_go (fun t k => XS.iconst X31.here hx rfl (hb hby at_118) k) ?_
    show own_G p e below _ T31 (mkF m 119 #[.val (.int i0), .val (.int (7 : Int32)), .val (.ref a1), .val (.ref a_UINT32), .unset] [(.int (1 : Int32)), (.int (7 : Int32))])
    refine own_go (fun t k => XS.icmpNo X31.here hx rfl (hb hby at_119) rfl (by decide) k) ?_
    show own_G p e below _ T31 (mkF m 122 #[.val (.int i0), .val (.int (7 : Int32)), .val (.ref a1), .val (.ref a_UINT32), .unset] [])
    refine own_go (fun t k => XS.iloadN X31.here hx rfl (hb hby at_122) rfl k) ?_
    show own_G p e below _ T31 (mkF m 123 #[.val (.int i0), .val (.int (7 : Int32)), .val (.ref a1), .val (.ref a_UINT32), .unset] [(.int (7 : Int32))])
    refine own_go (fun t k => XS.iconst X31.here hx rfl (hb hby at_123) k) ?_
    show own_G p e below _ T31 (mkF m 124 #[.val (.int i0), .val (.int (7 : Int32)), .val (.ref a1), .val (.ref a_UINT32), .unset] [(.int (2 : Int32)), (.int (7 : Int32))])
    refine own_go (fun t k => XS.icmpYes X31.here hx rfl (pc0 := 124) (pc' := 131) rfl (hb hby at_124) rfl (by decide) (by decide) (by decide) k) ?_
    show own_G p e below _ T31 (mkF m 131 #[.val (.int i0), .val (.int (7 : Int32)), .val (.ref a1), .val (.ref a_UINT32), .unset] [])
    refine own_go (fun t k => XS.iconst X31.here hx rfl (hb hby at_131) k) ?_
    show own_G p e below _ T31 (mkF m 132 #[.val (.int i0), .val (.int (7 : Int32)), .val (.ref a1), .val (.ref a_UINT32), .unset] [(.int (0 : Int32))])
    refine own_go (fun t k => XS.istore X31.here hx rfl (hb hby at_132) rfl (l' := #[.val (.int i0), .val (.int (7 : Int32)), .val (.ref a1), .val (.ref a_UINT32), .val (.int (0 : Int32))]) rfl k) ?_
    show own_G p e below _ T31 (mkF m 134 #[.val (.int i0), .val (.int (7 : Int32)), .val (.ref a1), .val (.ref a_UINT32), .val (.int (0 : Int32))] [])
    refine own_go (fun t k => XS.aloadN X31.here hx rfl (hb hby at_134) rfl rfl k) ?_
    show own_G p e below _ T31 (mkF m 135 #[.val (.int i0), .val (.int (7 : Int32)), .val (.ref a1), .val (.ref a_UINT32), .val (.int (0 : Int32))] [(.ref a_UINT32)])
    obtain ⟨T40, L40, v40, X40, ⟨rfl, rfl, q40⟩, st40⟩ := own_callV X31 hx hZ (y := (⟨"com/example/quern/quern/model/CimType", "isText", "()Z"⟩ : MethodName)) (z := (⟨"com/example/quern/quern/model/CimType", "isText", "()Z"⟩ : MethodName)) hown (hw _ (List.mem_of_getElem? (i := 35) rfl)) (hw _ (List.mem_of_getElem? (i := 36) rfl)) (hw _ (List.mem_of_getElem? (i := 38) rfl)) (hw _ (List.mem_of_getElem? (i := 38) rfl)) (hw _ (List.mem_of_getElem? (i := 37) rfl)) (hw _ (List.mem_of_getElem? (i := 39) rfl)) (hw _ (List.mem_of_getElem? (i := 4) rfl)) (notFace_of_selects (args := #[]) (mvT hZ (hw _ (List.mem_of_getElem? (i := 38) rfl)))) (by decide) (c_isText l Z a0 hw a_BOOLEAN a_STRING a_CHAR16 a_UINT8 a_SINT8 a_UINT16 a_SINT16 a_UINT32 a_SINT32 a_UINT64 a_SINT64 a_REAL32 a_REAL64 a_DATETIME a_REFERENCE a_UINT32 h31 (own_B_ext x31 B) ) e31 (E_UINT32.ext x31) (argsL := []) (rest := []) (g := (mkF m 135 #[.val (.int i0), .val (.int (7 : Int32)), .val (.ref a1), .val (.ref a_UINT32), .val (.int (0 : Int32))] [(.ref a_UINT32)])) rfl (by rw [hml]; rfl) (ps := []) (r := (some .boolean)) (by decide +kernel) rfl rfl (W := 0) (by show 2 * 0 + _ ≤ _; exact Nat.le_of_eq rfl) (hb hby at_135) (by decide) (by decide) (by decide) (by decide)
    have N40 := Fr.app N31 (Fr.nil n0)
    refine own_go st40 ?_
    show own_G p e below _ T40 (mkF m 138 #[.val (.int i0), .val (.int (7 : Int32)), .val (.ref a1), .val (.ref a_UINT32), .val (.int (0 : Int32))] [(.int (own_isText a_BOOLEAN a_STRING a_CHAR16 a_UINT8 a_SINT8 a_UINT16 a_SINT16 a_UINT32 a_SINT32 a_UINT64 a_SINT64 a_REAL32 a_REAL64 a_DATETIME a_REFERENCE a_UINT32))])
    have r40 : (own_isText a_BOOLEAN a_STRING a_CHAR16 a_UINT8 a_SINT8 a_UINT16 a_SINT16 a_UINT32 a_SINT32 a_UINT64 a_SINT64 a_REAL32 a_REAL64 a_DATETIME a_REFERENCE a_UINT32) = (0 : Int32) := by unfold own_isText; rw [if_neg (Fld.ne F_UINT32_ordinal F_STRING_ordinal (own_neV (by decide))), if_neg (Fld.ne F_UINT32_ordinal F_CHAR16_ordinal (own_neV (by decide)))]; rfl
    rw [r40]
    show own_G p e below _ T40 (mkF m 138 #[.val (.int i0), .val (.int (7 : Int32)), .val (.ref a1), .val (.ref a_UINT32), .val (.int (0 : Int32))] [(.int (0 : Int32))])
    refine own_go (fun t k => XS.iload X40.here hx rfl (hb hby at_138) rfl k) ?_
    show own_G p e below _ T40 (mkF m 140 #[.val (.int i0), .val (.int (7 : Int32)), .val (.ref a1), .val (.ref a_UINT32), .val (.int (0 : Int32))] [(.int (0 : Int32)), (.int (0 : Int32))])
    refine own_go (fun t k => XS.icmpNo X40.here hx rfl (hb hby at_140) rfl (by decide) k) ?_
    show own_G p e below _ T40 (mkF m 143 #[.val (.int i0), .val (.int (7 : Int32)), .val (.ref a1), .val (.ref a_UINT32), .val (.int (0 : Int32))] [])
    refine own_go (fun t k => XS.iconst X40.here hx rfl (hb hby at_143) k) ?_
    show own_G p e below _ T40 (mkF m 144 #[.val (.int i0), .val (.int (7 : Int32)), .val (.ref a1), .val (.ref a_UINT32), .val (.int (0 : Int32))] [(.int (1 : Int32))])
    refine own_go (fun t k => XS.goto X40.here hx rfl (pc0 := 144) (pc' := 148) rfl (hb hby at_144) (by decide) (by decide) k) ?_
    show own_G p e below _ T40 (mkF m 148 #[.val (.int i0), .val (.int (7 : Int32)), .val (.ref a1), .val (.ref a_UINT32), .val (.int (0 : Int32))] [(.int (1 : Int32))])
    exact own_retN X40 hx hlk hret (by simp) (hb hby at_148) (by decide) (by decide) ⟨rfl, N40⟩
  · rw [hk32]
    show own_G p e below _ T31 (mkF m 113 #[.val (.int i0), .val (.int (8 : Int32)), .val (.ref a1), .unset, .unset] [])
    refine own_go (fun t k => XS.aloadN X31.here hx rfl (hb hby at_113) rfl rfl k) ?_
    show own_G p e below _ T31 (mkF m 114 #[.val (.int i0), .val (.int (8 : Int32)), .val (.ref a1), .unset, .unset] [(.ref a1)])
    refine own_go (fun t k => XS.iloadN X31.here hx rfl (hb hby at_114) rfl k) ?_
    show own_G p e below _ T31 (mkF m 115 #[.val (.int i0), .val (.int (8 : Int32)), .val (.ref a1), .unset, .unset] [(.int (8 : Int32)), (.ref a1)])
    refine own_go (X31.aaload hx (j := (8 : Int32)) (v := (.ref a_SINT32)) (by rw [e31]; exact A31.1) (State.isArrayOf_alike hZ.alike A31.2.1) rfl A31.2.2 (own_in (n := 15) rfl (by decide)) rfl (g := (mkF m 115 #[.val (.int i0), .val (.int (8 : Int32)), .val (.ref a1), .unset, .unset] [(.int (8 : Int32)), (.ref a1)])) rfl rfl (hb hby at_115)) ?_
    show own_G p e below _ T31 (mkF m 116 #[.val (.int i0), .val (.int (8 : Int32)), .val (.ref a1), .unset, .unset] [(.ref a_SINT32)])
    refine own_go (fun t k => XS.astoreN X31.here hx rfl (hb hby at_116) rfl rfl (l' := #[.val (.int i0), .val (.int (8 : Int32)), .val (.ref a1), .val (.ref a_SINT32), .unset]) rfl k) ?_
    show own_G p e below _ T31 (mkF m 117 #[.val (.int i0), .val (.int (8 : Int32)), .val (.ref a1), .val (.ref a_SINT32), .unset] [])
    refine own_go (fun t k => XS.iloadN X31.here hx rfl (hb hby at_117) rfl k) ?_
    show own_G p e below _ T31 (mkF m 118 #[.val (.int i0), .val (.int (8 : Int32)), .val (.ref a1), .val (.ref a_SINT32), .unset] [(.int (8 : Int32))])
    refine own_go (fun t k => XS.iconst X31.here hx rfl (hb hby at_118) k) ?_
    show own_G p e below _ T31 (mkF m 119 #[.val (.int i0), .val (.int (8 : Int32)), .val (.ref a1), .val (.ref a_SINT32), .unset] [(.int (1 : Int32)), (.int (8 : Int32))])
    refine own_go (fun t k => XS.icmpNo X31.here hx rfl (hb hby at_119) rfl (by decide) k) ?_
    show own_G p e below _ T31 (mkF m 122 #[.val (.int i0), .val (.int (8 : Int32)), .val (.ref a1), .val (.ref a_SINT32), .unset] [])
    refine own_go (fun t k => XS.iloadN X31.here hx rfl (hb hby at_122) rfl k) ?_
    show own_G p e below _ T31 (mkF m 123 #[.val (.int i0), .val (.int (8 : Int32)), .val (.ref a1), .val (.ref a_SINT32), .unset] [(.int (8 : Int32))])
    refine own_go (fun t k => XS.iconst X31.here hx rfl (hb hby at_123) k) ?_
    show own_G p e below _ T31 (mkF m 124 #[.val (.int i0), .val (.int (8 : Int32)), .val (.ref a1), .val (.ref a_SINT32), .unset] [(.int (2 : Int32)), (.int (8 : Int32))])
    refine own_go (fun t k => XS.icmpYes X31.here hx rfl (pc0 := 124) (pc' := 131) rfl (hb hby at_124) rfl (by decide) (by decide) (by decide) k) ?_
    show own_G p e below _ T31 (mkF m 131 #[.val (.int i0), .val (.int (8 : Int32)), .val (.ref a1), .val (.ref a_SINT32), .unset] [])
    refine own_go (fun t k => XS.iconst X31.here hx rfl (hb hby at_131) k) ?_
    show own_G p e below _ T31 (mkF m 132 #[.val (.int i0), .val (.int (8 : Int32)), .val (.ref a1), .val (.ref a_SINT32), .unset] [(.int (0 : Int32))])
    refine own_go (fun t k => XS.istore X31.here hx rfl (hb hby at_132) rfl (l' := #[.val (.int i0), .val (.int (8 : Int32)), .val (.ref a1), .val (.ref a_SINT32), .val (.int (0 : Int32))]) rfl k) ?_
    show own_G p e below _ T31 (mkF m 134 #[.val (.int i0), .val (.int (8 : Int32)), .val (.ref a1), .val (.ref a_SINT32), .val (.int (0 : Int32))] [])
    refine own_go (fun t k => XS.aloadN X31.here hx rfl (hb hby at_134) rfl rfl k) ?_
    show own_G p e below _ T31 (mkF m 135 #[.val (.int i0), .val (.int (8 : Int32)), .val (.ref a1), .val (.ref a_SINT32), .val (.int (0 : Int32))] [(.ref a_SINT32)])
    obtain ⟨T41, L41, v41, X41, ⟨rfl, rfl, q41⟩, st41⟩ := own_callV X31 hx hZ (y := (⟨"com/example/quern/quern/model/CimType", "isText", "()Z"⟩ : MethodName)) (z := (⟨"com/example/quern/quern/model/CimType", "isText", "()Z"⟩ : MethodName)) hown (hw _ (List.mem_of_getElem? (i := 35) rfl)) (hw _ (List.mem_of_getElem? (i := 36) rfl)) (hw _ (List.mem_of_getElem? (i := 38) rfl)) (hw _ (List.mem_of_getElem? (i := 38) rfl)) (hw _ (List.mem_of_getElem? (i := 37) rfl)) (hw _ (List.mem_of_getElem? (i := 39) rfl)) (hw _ (List.mem_of_getElem? (i := 4) rfl)) (notFace_of_selects (args := #[]) (mvT hZ (hw _ (List.mem_of_getElem? (i := 38) rfl)))) (by decide) (c_isText l Z a0 hw a_BOOLEAN a_STRING a_CHAR16 a_UINT8 a_SINT8 a_UINT16 a_SINT16 a_UINT32 a_SINT32 a_UINT64 a_SINT64 a_REAL32 a_REAL64 a_DATETIME a_REFERENCE a_SINT32 h31 (own_B_ext x31 B) ) e31 (E_SINT32.ext x31) (argsL := []) (rest := []) (g := (mkF m 135 #[.val (.int i0), .val (.int (8 : Int32)), .val (.ref a1), .val (.ref a_SINT32), .val (.int (0 : Int32))] [(.ref a_SINT32)])) rfl (by rw [hml]; rfl) (ps := []) (r := (some .boolean)) (by decide +kernel) rfl rfl (W := 0) (by show 2 * 0 + _ ≤ _; exact Nat.le_of_eq rfl) (hb hby at_135) (by decide) (by decide) (by decide) (by decide)
    have N41 := Fr.app N31 (Fr.nil n0)
    refine own_go st41 ?_
    show own_G p e below _ T41 (mkF m 138 #[.val (.int i0), .val (.int (8 : Int32)), .val (.ref a1), .val (.ref a_SINT32), .val (.int (0 : Int32))] [(.int (own_isText a_BOOLEAN a_STRING a_CHAR16 a_UINT8 a_SINT8 a_UINT16 a_SINT16 a_UINT32 a_SINT32 a_UINT64 a_SINT64 a_REAL32 a_REAL64 a_DATETIME a_REFERENCE a_SINT32))])
    have r41 : (own_isText a_BOOLEAN a_STRING a_CHAR16 a_UINT8 a_SINT8 a_UINT16 a_SINT16 a_UINT32 a_SINT32 a_UINT64 a_SINT64 a_REAL32 a_REAL64 a_DATETIME a_REFERENCE a_SINT32) = (0 : Int32) := by unfold own_isText; rw [if_neg (Fld.ne F_SINT32_ordinal F_STRING_ordinal (own_neV (by decide))), if_neg (Fld.ne F_SINT32_ordinal F_CHAR16_ordinal (own_neV (by decide)))]; rfl
    rw [r41]
    show own_G p e below _ T41 (mkF m 138 #[.val (.int i0), .val (.int (8 : Int32)), .val (.ref a1), .val (.ref a_SINT32), .val (.int (0 : Int32))] [(.int (0 : Int32))])
    refine own_go (fun t k => XS.iload X41.here hx rfl (hb hby at_138) rfl k) ?_
    show own_G p e below _ T41 (mkF m 140 #[.val (.int i0), .val (.int (8 : Int32)), .val (.ref a1), .val (.ref a_SINT32), .val (.int (0 : Int32))] [(.int (0 : Int32)), (.int (0 : Int32))])
    refine own_go (fun t k => XS.icmpNo X41.here hx rfl (hb hby at_140) rfl (by decide) k) ?_
    show own_G p e below _ T41 (mkF m 143 #[.val (.int i0), .val (.int (8 : Int32)), .val (.ref a1), .val (.ref a_SINT32), .val (.int (0 : Int32))] [])
    refine own_go (fun t k => XS.iconst X41.here hx rfl (hb hby at_143) k) ?_
    show own_G p e below _ T41 (mkF m 144 #[.val (.int i0), .val (.int (8 : Int32)), .val (.ref a1), .val (.ref a_SINT32), .val (.int (0 : Int32))] [(.int (1 : Int32))])
    refine own_go (fun t k => XS.goto X41.here hx rfl (pc0 := 144) (pc' := 148) rfl (hb hby at_144) (by decide) (by decide) k) ?_
    show own_G p e below _ T41 (mkF m 148 #[.val (.int i0), .val (.int (8 : Int32)), .val (.ref a1), .val (.ref a_SINT32), .val (.int (0 : Int32))] [(.int (1 : Int32))])
    exact own_retN X41 hx hlk hret (by simp) (hb hby at_148) (by decide) (by decide) ⟨rfl, N41⟩
  · rw [hk32]
    show own_G p e below _ T31 (mkF m 113 #[.val (.int i0), .val (.int (9 : Int32)), .val (.ref a1), .unset, .unset] [])
    refine own_go (fun t k => XS.aloadN X31.here hx rfl (hb hby at_113) rfl rfl k) ?_
    show own_G p e below _ T31 (mkF m 114 #[.val (.int i0), .val (.int (9 : Int32)), .val (.ref a1), .unset, .unset] [(.ref a1)])
    refine own_go (fun t k => XS.iloadN X31.here hx rfl (hb hby at_114) rfl k) ?_
    show own_G p e below _ T31 (mkF m 115 #[.val (.int i0), .val (.int (9 : Int32)), .val (.ref a1), .unset, .unset] [(.int (9 : Int32)), (.ref a1)])
    refine own_go (X31.aaload hx (j := (9 : Int32)) (v := (.ref a_UINT64)) (by rw [e31]; exact A31.1) (State.isArrayOf_alike hZ.alike A31.2.1) rfl A31.2.2 (own_in (n := 15) rfl (by decide)) rfl (g := (mkF m 115 #[.val (.int i0), .val (.int (9 : Int32)), .val (.ref a1), .unset, .unset] [(.int (9 : Int32)), (.ref a1)])) rfl rfl (hb hby at_115)) ?_
    show own_G p e below _ T31 (mkF m 116 #[.val (.int i0), .val (.int (9 : Int32)), .val (.ref a1), .unset, .unset] [(.ref a_UINT64)])
    refine own_go (fun t k => XS.astoreN X31.here hx rfl (hb hby at_116) rfl rfl (l' := #[.val (.int i0), .val (.int (9 : Int32)), .val (.ref a1), .val (.ref a_UINT64), .unset]) rfl k) ?_
    show own_G p e below _ T31 (mkF m 117 #[.val (.int i0), .val (.int (9 : Int32)), .val (.ref a1), .val (.ref a_UINT64), .unset] [])
    refine own_go (fun t k => XS.iloadN X31.here hx rfl (hb hby at_117) rfl k) ?_
    show own_G p e below _ T31 (mkF m 118 #[.val (.int i0), .val (.int (9 : Int32)), .val (.ref a1), .val (.ref a_UINT64), .unset] [(.int (9 : Int32))])
    refine own_go (fun t k => XS.iconst X31.here hx rfl (hb hby at_118) k) ?_
    show own_G p e below _ T31 (mkF m 119 #[.val (.int i0), .val (.int (9 : Int32)), .val (.ref a1), .val (.ref a_UINT64), .unset] [(.int (1 : Int32)), (.int (9 : Int32))])
    refine own_go (fun t k => XS.icmpNo X31.here hx rfl (hb hby at_119) rfl (by decide) k) ?_
    show own_G p e below _ T31 (mkF m 122 #[.val (.int i0), .val (.int (9 : Int32)), .val (.ref a1), .val (.ref a_UINT64), .unset] [])
    refine own_go (fun t k => XS.iloadN X31.here hx rfl (hb hby at_122) rfl k) ?_
    show own_G p e below _ T31 (mkF m 123 #[.val (.int i0), .val (.int (9 : Int32)), .val (.ref a1), .val (.ref a_UINT64), .unset] [(.int (9 : Int32))])
    refine own_go (fun t k => XS.iconst X31.here hx rfl (hb hby at_123) k) ?_
    show own_G p e below _ T31 (mkF m 124 #[.val (.int i0), .val (.int (9 : Int32)), .val (.ref a1), .val (.ref a_UINT64), .unset] [(.int (2 : Int32)), (.int (9 : Int32))])
    refine own_go (fun t k => XS.icmpYes X31.here hx rfl (pc0 := 124) (pc' := 131) rfl (hb hby at_124) rfl (by decide) (by decide) (by decide) k) ?_
    show own_G p e below _ T31 (mkF m 131 #[.val (.int i0), .val (.int (9 : Int32)), .val (.ref a1), .val (.ref a_UINT64), .unset] [])
    refine own_go (fun t k => XS.iconst X31.here hx rfl (hb hby at_131) k) ?_
    show own_G p e below _ T31 (mkF m 132 #[.val (.int i0), .val (.int (9 : Int32)), .val (.ref a1), .val (.ref a_UINT64), .unset] [(.int (0 : Int32))])
    refine own_go (fun t k => XS.istore X31.here hx rfl (hb hby at_132) rfl (l' := #[.val (.int i0), .val (.int (9 : Int32)), .val (.ref a1), .val (.ref a_UINT64), .val (.int (0 : Int32))]) rfl k) ?_
    show own_G p e below _ T31 (mkF m 134 #[.val (.int i0), .val (.int (9 : Int32)), .val (.ref a1), .val (.ref a_UINT64), .val (.int (0 : Int32))] [])
    refine own_go (fun t k => XS.aloadN X31.here hx rfl (hb hby at_134) rfl rfl k) ?_
    show own_G p e below _ T31 (mkF m 135 #[.val (.int i0), .val (.int (9 : Int32)), .val (.ref a1), .val (.ref a_UINT64), .val (.int (0 : Int32))] [(.ref a_UINT64)])
    obtain ⟨T42, L42, v42, X42, ⟨rfl, rfl, q42⟩, st42⟩ := own_callV X31 hx hZ (y := (⟨"com/example/quern/quern/model/CimType", "isText", "()Z"⟩ : MethodName)) (z := (⟨"com/example/quern/quern/model/CimType", "isText", "()Z"⟩ : MethodName)) hown (hw _ (List.mem_of_getElem? (i := 35) rfl)) (hw _ (List.mem_of_getElem? (i := 36) rfl)) (hw _ (List.mem_of_getElem? (i := 38) rfl)) (hw _ (List.mem_of_getElem? (i := 38) rfl)) (hw _ (List.mem_of_getElem? (i := 37) rfl)) (hw _ (List.mem_of_getElem? (i := 39) rfl)) (hw _ (List.mem_of_getElem? (i := 4) rfl)) (notFace_of_selects (args := #[]) (mvT hZ (hw _ (List.mem_of_getElem? (i := 38) rfl)))) (by decide) (c_isText l Z a0 hw a_BOOLEAN a_STRING a_CHAR16 a_UINT8 a_SINT8 a_UINT16 a_SINT16 a_UINT32 a_SINT32 a_UINT64 a_SINT64 a_REAL32 a_REAL64 a_DATETIME a_REFERENCE a_UINT64 h31 (own_B_ext x31 B) ) e31 (E_UINT64.ext x31) (argsL := []) (rest := []) (g := (mkF m 135 #[.val (.int i0), .val (.int (9 : Int32)), .val (.ref a1), .val (.ref a_UINT64), .val (.int (0 : Int32))] [(.ref a_UINT64)])) rfl (by rw [hml]; rfl) (ps := []) (r := (some .boolean)) (by decide +kernel) rfl rfl (W := 0) (by show 2 * 0 + _ ≤ _; exact Nat.le_of_eq rfl) (hb hby at_135) (by decide) (by decide) (by decide) (by decide)
    have N42 := Fr.app N31 (Fr.nil n0)
    refine own_go st42 ?_
    show own_G p e below _ T42 (mkF m 138 #[.val (.int i0), .val (.int (9 : Int32)), .val (.ref a1), .val (.ref a_UINT64), .val (.int (0 : Int32))] [(.int (own_isText a_BOOLEAN a_STRING a_CHAR16 a_UINT8 a_SINT8 a_UINT16 a_SINT16 a_UINT32 a_SINT32 a_UINT64 a_SINT64 a_REAL32 a_REAL64 a_DATETIME a_REFERENCE a_UINT64))])
    have r42 : (own_isText a_BOOLEAN a_STRING a_CHAR16 a_UINT8 a_SINT8 a_UINT16 a_SINT16 a_UINT32 a_SINT32 a_UINT64 a_SINT64 a_REAL32 a_REAL64 a_DATETIME a_REFERENCE a_UINT64) = (0 : Int32) := by unfold own_isText; rw [if_neg (Fld.ne F_UINT64_ordinal F_STRING_ordinal (own_neV (by decide))), if_neg (Fld.ne F_UINT64_ordinal F_CHAR16_ordinal (own_neV (by decide)))]; rfl
    rw [r42]
    show own_G p e below _ T42 (mkF m 138 #[.val (.int i0), .val (.int (9 : Int32)), .val (.ref a1), .val (.ref a_UINT64), .val (.int (0 : Int32))] [(.int (0 : Int32))])
    refine own_go (fun t k => XS.iload X42.here hx rfl (hb hby at_138) rfl k) ?_
    show own_G p e below _ T42 (mkF m 140 #[.val (.int i0), .val (.int (9 : Int32)), .val (.ref a1), .val (.ref a_UINT64), .val (.int (0 : Int32))] [(.int (0 : Int32)), (.int (0 : Int32))])
    refine own_go (fun t k => XS.icmpNo X42.here hx rfl (hb hby at_140) rfl (by decide) k) ?_
    show own_G p e below _ T42 (mkF m 143 #[.val (.int i0), .val (.int (9 : Int32)), .val (.ref a1), .val (.ref a_UINT64), .val (.int (0 : Int32))] [])
    refine own_go (fun t k => XS.iconst X42.here hx rfl (hb hby at_143) k) ?_
    show own_G p e below _ T42 (mkF m 144 #[.val (.int i0), .val (.int (9 : Int32)), .val (.ref a1), .val (.ref a_UINT64), .val (.int (0 : Int32))] [(.int (1 : Int32))])
    refine own_go (fun t k => XS.goto X42.here hx rfl (pc0 := 144) (pc' := 148) rfl (hb hby at_144) (by decide) (by decide) k) ?_
    show own_G p e below _ T42 (mkF m 148 #[.val (.int i0), .val (.int (9 : Int32)), .val (.ref a1), .val (.ref a_UINT64), .val (.int (0 : Int32))] [(.int (1 : Int32))])
    exact own_retN X42 hx hlk hret (by simp) (hb hby at_148) (by decide) (by decide) ⟨rfl, N42⟩
  · rw [hk32]
    show own_G p e below _ T31 (mkF m 113 #[.val (.int i0), .val (.int (10 : Int32)), .val (.ref a1), .unset, .unset] [])
    refine own_go (fun t k => XS.aloadN X31.here hx rfl (hb hby at_113) rfl rfl k) ?_
    show own_G p e below _ T31 (mkF m 114 #[.val (.int i0), .val (.int (10 : Int32)), .val (.ref a1), .unset, .unset] [(.ref a1)])
    refine own_go (fun t k => XS.iloadN X31.here hx rfl (hb hby at_114) rfl k) ?_
    show own_G p e below _ T31 (mkF m 115 #[.val (.int i0), .val (.int (10 : Int32)), .val (.ref a1), .unset, .unset] [(.int (10 : Int32)), (.ref a1)])
    refine own_go (X31.aaload hx (j := (10 : Int32)) (v := (.ref a_SINT64)) (by rw [e31]; exact A31.1) (State.isArrayOf_alike hZ.alike A31.2.1) rfl A31.2.2 (own_in (n := 15) rfl (by decide)) rfl (g := (mkF m 115 #[.val (.int i0), .val (.int (10 : Int32)), .val (.ref a1), .unset, .unset] [(.int (10 : Int32)), (.ref a1)])) rfl rfl (hb hby at_115)) ?_
    show own_G p e below _ T31 (mkF m 116 #[.val (.int i0), .val (.int (10 : Int32)), .val (.ref a1), .unset, .unset] [(.ref a_SINT64)])
    refine own_go (fun t k => XS.astoreN X31.here hx rfl (hb hby at_116) rfl rfl (l' := #[.val (.int i0), .val (.int (10 : Int32)), .val (.ref a1), .val (.ref a_SINT64), .unset]) rfl k) ?_
    show own_G p e below _ T31 (mkF m 117 #[.val (.int i0), .val (.int (10 : Int32)), .val (.ref a1), .val (.ref a_SINT64), .unset] [])
    refine own_go (fun t k => XS.iloadN X31.here hx rfl (hb hby at_117) rfl k) ?_
    show own_G p e below _ T31 (mkF m 118 #[.val (.int i0), .val (.int (10 : Int32)), .val (.ref a1), .val (.ref a_SINT64), .unset] [(.int (10 : Int32))])
    refine own_go (fun t k => XS.iconst X31.here hx rfl (hb hby at_118) k) ?_
    show own_G p e below _ T31 (mkF m 119 #[.val (.int i0), .val (.int (10 : Int32)), .val (.ref a1), .val (.ref a_SINT64), .unset] [(.int (1 : Int32)), (.int (10 : Int32))])
    refine own_go (fun t k => XS.icmpNo X31.here hx rfl (hb hby at_119) rfl (by decide) k) ?_
    show own_G p e below _ T31 (mkF m 122 #[.val (.int i0), .val (.int (10 : Int32)), .val (.ref a1), .val (.ref a_SINT64), .unset] [])
    refine own_go (fun t k => XS.iloadN X31.here hx rfl (hb hby at_122) rfl k) ?_
    show own_G p e below _ T31 (mkF m 123 #[.val (.int i0), .val (.int (10 : Int32)), .val (.ref a1), .val (.ref a_SINT64), .unset] [(.int (10 : Int32))])
    refine own_go (fun t k => XS.iconst X31.here hx rfl (hb hby at_123) k) ?_
    show own_G p e below _ T31 (mkF m 124 #[.val (.int i0), .val (.int (10 : Int32)), .val (.ref a1), .val (.ref a_SINT64), .unset] [(.int (2 : Int32)), (.int (10 : Int32))])
    refine own_go (fun t k => XS.icmpYes X31.here hx rfl (pc0 := 124) (pc' := 131) rfl (hb hby at_124) rfl (by decide) (by decide) (by decide) k) ?_
    show own_G p e below _ T31 (mkF m 131 #[.val (.int i0), .val (.int (10 : Int32)), .val (.ref a1), .val (.ref a_SINT64), .unset] [])
    refine own_go (fun t k => XS.iconst X31.here hx rfl (hb hby at_131) k) ?_
    show own_G p e below _ T31 (mkF m 132 #[.val (.int i0), .val (.int (10 : Int32)), .val (.ref a1), .val (.ref a_SINT64), .unset] [(.int (0 : Int32))])
    refine own_go (fun t k => XS.istore X31.here hx rfl (hb hby at_132) rfl (l' := #[.val (.int i0), .val (.int (10 : Int32)), .val (.ref a1), .val (.ref a_SINT64), .val (.int (0 : Int32))]) rfl k) ?_
    show own_G p e below _ T31 (mkF m 134 #[.val (.int i0), .val (.int (10 : Int32)), .val (.ref a1), .val (.ref a_SINT64), .val (.int (0 : Int32))] [])
    refine own_go (fun t k => XS.aloadN X31.here hx rfl (hb hby at_134) rfl rfl k) ?_
    show own_G p e below _ T31 (mkF m 135 #[.val (.int i0), .val (.int (10 : Int32)), .val (.ref a1), .val (.ref a_SINT64), .val (.int (0 : Int32))] [(.ref a_SINT64)])
    obtain ⟨T43, L43, v43, X43, ⟨rfl, rfl, q43⟩, st43⟩ := own_callV X31 hx hZ (y := (⟨"com/example/quern/quern/model/CimType", "isText", "()Z"⟩ : MethodName)) (z := (⟨"com/example/quern/quern/model/CimType", "isText", "()Z"⟩ : MethodName)) hown (hw _ (List.mem_of_getElem? (i := 35) rfl)) (hw _ (List.mem_of_getElem? (i := 36) rfl)) (hw _ (List.mem_of_getElem? (i := 38) rfl)) (hw _ (List.mem_of_getElem? (i := 38) rfl)) (hw _ (List.mem_of_getElem? (i := 37) rfl)) (hw _ (List.mem_of_getElem? (i := 39) rfl)) (hw _ (List.mem_of_getElem? (i := 4) rfl)) (notFace_of_selects (args := #[]) (mvT hZ (hw _ (List.mem_of_getElem? (i := 38) rfl)))) (by decide) (c_isText l Z a0 hw a_BOOLEAN a_STRING a_CHAR16 a_UINT8 a_SINT8 a_UINT16 a_SINT16 a_UINT32 a_SINT32 a_UINT64 a_SINT64 a_REAL32 a_REAL64 a_DATETIME a_REFERENCE a_SINT64 h31 (own_B_ext x31 B) ) e31 (E_SINT64.ext x31) (argsL := []) (rest := []) (g := (mkF m 135 #[.val (.int i0), .val (.int (10 : Int32)), .val (.ref a1), .val (.ref a_SINT64), .val (.int (0 : Int32))] [(.ref a_SINT64)])) rfl (by rw [hml]; rfl) (ps := []) (r := (some .boolean)) (by decide +kernel) rfl rfl (W := 0) (by show 2 * 0 + _ ≤ _; exact Nat.le_of_eq rfl) (hb hby at_135) (by decide) (by decide) (by decide) (by decide)
    have N43 := Fr.app N31 (Fr.nil n0)
    refine own_go st43 ?_
    show own_G p e below _ T43 (mkF m 138 #[.val (.int i0), .val (.int (10 : Int32)), .val (.ref a1), .val (.ref a_SINT64), .val (.int (0 : Int32))] [(.int (own_isText a_BOOLEAN a_STRING a_CHAR16 a_UINT8 a_SINT8 a_UINT16 a_SINT16 a_UINT32 a_SINT32 a_UINT64 a_SINT64 a_REAL32 a_REAL64 a_DATETIME a_REFERENCE a_SINT64))])
    have r43 : (own_isText a_BOOLEAN a_STRING a_CHAR16 a_UINT8 a_SINT8 a_UINT16 a_SINT16 a_UINT32 a_SINT32 a_UINT64 a_SINT64 a_REAL32 a_REAL64 a_DATETIME a_REFERENCE a_SINT64) = (0 : Int32) := by unfold own_isText; rw [if_neg (Fld.ne F_SINT64_ordinal F_STRING_ordinal (own_neV (by decide))), if_neg (Fld.ne F_SINT64_ordinal F_CHAR16_ordinal (own_neV (by decide)))]; rfl
    rw [r43]
    show own_G p e below _ T43 (mkF m 138 #[.val (.int i0), .val (.int (10 : Int32)), .val (.ref a1), .val (.ref a_SINT64), .val (.int (0 : Int32))] [(.int (0 : Int32))])
    refine own_go (fun t k => XS.iload X43.here hx rfl (hb hby at_138) rfl k) ?_
    show own_G p e below _ T43 (mkF m 140 #[.val (.int i0), .val (.int (10 : Int32)), .val (.ref a1), .val (.ref a_SINT64), .val (.int (0 : Int32))] [(.int (0 : Int32)), (.int (0 : Int32))])
    refine own_go (fun t k => XS.icmpNo X43.here hx rfl (hb hby at_140) rfl (by decide) k) ?_
    show own_G p e below _ T43 (mkF m 143 #[.val (.int i0), .val (.int (10 : Int32)), .val (.ref a1), .val (.ref a_SINT64), .val (.int (0 : Int32))] [])
    refine own_go (fun t k => XS.iconst X43.here hx rfl (hb hby at_143) k) ?_
    show own_G p e below _ T43 (mkF m 144 #[.val (.int i0), .val (.int (10 : Int32)), .val (.ref a1), .val (.ref a_SINT64), .val (.int (0 : Int32))] [(.int (1 : Int32))])
    refine own_go (fun t k => XS.goto X43.here hx rfl (pc0 := 144) (pc' := 148) rfl (hb hby at_144) (by decide) (by decide) k) ?_
    show own_G p e below _ T43 (mkF m 148 #[.val (.int i0), .val (.int (10 : Int32)), .val (.ref a1), .val (.ref a_SINT64), .val (.int (0 : Int32))] [(.int (1 : Int32))])
    exact own_retN X43 hx hlk hret (by simp) (hb hby at_148) (by decide) (by decide) ⟨rfl, N43⟩
  · rw [hk32]
    show own_G p e below _ T31 (mkF m 113 #[.val (.int i0), .val (.int (11 : Int32)), .val (.ref a1), .unset, .unset] [])
    refine own_go (fun t k => XS.aloadN X31.here hx rfl (hb hby at_113) rfl rfl k) ?_
    show own_G p e below _ T31 (mkF m 114 #[.val (.int i0), .val (.int (11 : Int32)), .val (.ref a1), .unset, .unset] [(.ref a1)])
    refine own_go (fun t k => XS.iloadN X31.here hx rfl (hb hby at_114) rfl k) ?_
    show own_G p e below _ T31 (mkF m 115 #[.val (.int i0), .val (.int (11 : Int32)), .val (.ref a1), .unset, .unset] [(.int (11 : Int32)), (.ref a1)])
    refine own_go (X31.aaload hx (j := (11 : Int32)) (v := (.ref a_REAL32)) (by rw [e31]; exact A31.1) (State.isArrayOf_alike hZ.alike A31.2.1) rfl A31.2.2 (own_in (n := 15) rfl (by decide)) rfl (g := (mkF m 115 #[.val (.int i0), .val (.int (11 : Int32)), .val (.ref a1), .unset, .unset] [(.int (11 : Int32)), (.ref a1)])) rfl rfl (hb hby at_115)) ?_
    show own_G p e below _ T31 (mkF m 116 #[.val (.int i0), .val (.int (11 : Int32)), .val (.ref a1), .unset, .unset] [(.ref a_REAL32)])
    refine own_go (fun t k => XS.astoreN X31.here hx rfl (hb hby at_116) rfl rfl (l' := #[.val (.int i0), .val (.int (11 : Int32)), .val (.ref a1), .val (.ref a_REAL32), .unset]) rfl k) ?_
    show own_G p e below _ T31 (mkF m 117 #[.val (.int i0), .val (.int (11 : Int32)), .val (.ref a1), .val (.ref a_REAL32), .unset] [])
    refine own_go (fun t k => XS.iloadN X31.here hx rfl (hb hby at_117) rfl k) ?_
    show own_G p e below _ T31 (mkF m 118 #[.val (.int i0), .val (.int (11 : Int32)), .val (.ref a1), .val (.ref a_REAL32), .unset] [(.int (11 : Int32))])
    refine own_go (fun t k => XS.iconst X31.here hx rfl (hb hby at_118) k) ?_
    show own_G p e below _ T31 (mkF m 119 #[.val (.int i0), .val (.int (11 : Int32)), .val (.ref a1), .val (.ref a_REAL32), .unset] [(.int (1 : Int32)), (.int (11 : Int32))])
    refine own_go (fun t k => XS.icmpNo X31.here hx rfl (hb hby at_119) rfl (by decide) k) ?_
    show own_G p e below _ T31 (mkF m 122 #[.val (.int i0), .val (.int (11 : Int32)), .val (.ref a1), .val (.ref a_REAL32), .unset] [])
    refine own_go (fun t k => XS.iloadN X31.here hx rfl (hb hby at_122) rfl k) ?_
    show own_G p e below _ T31 (mkF m 123 #[.val (.int i0), .val (.int (11 : Int32)), .val (.ref a1), .val (.ref a_REAL32), .unset] [(.int (11 : Int32))])
    refine own_go (fun t k => XS.iconst X31.here hx rfl (hb hby at_123) k) ?_
    show own_G p e below _ T31 (mkF m 124 #[.val (.int i0), .val (.int (11 : Int32)), .val (.ref a1), .val (.ref a_REAL32), .unset] [(.int (2 : Int32)), (.int (11 : Int32))])
    refine own_go (fun t k => XS.icmpYes X31.here hx rfl (pc0 := 124) (pc' := 131) rfl (hb hby at_124) rfl (by decide) (by decide) (by decide) k) ?_
    show own_G p e below _ T31 (mkF m 131 #[.val (.int i0), .val (.int (11 : Int32)), .val (.ref a1), .val (.ref a_REAL32), .unset] [])
    refine own_go (fun t k => XS.iconst X31.here hx rfl (hb hby at_131) k) ?_
    show own_G p e below _ T31 (mkF m 132 #[.val (.int i0), .val (.int (11 : Int32)), .val (.ref a1), .val (.ref a_REAL32), .unset] [(.int (0 : Int32))])
    refine own_go (fun t k => XS.istore X31.here hx rfl (hb hby at_132) rfl (l' := #[.val (.int i0), .val (.int (11 : Int32)), .val (.ref a1), .val (.ref a_REAL32), .val (.int (0 : Int32))]) rfl k) ?_
    show own_G p e below _ T31 (mkF m 134 #[.val (.int i0), .val (.int (11 : Int32)), .val (.ref a1), .val (.ref a_REAL32), .val (.int (0 : Int32))] [])
    refine own_go (fun t k => XS.aloadN X31.here hx rfl (hb hby at_134) rfl rfl k) ?_
    show own_G p e below _ T31 (mkF m 135 #[.val (.int i0), .val (.int (11 : Int32)), .val (.ref a1), .val (.ref a_REAL32), .val (.int (0 : Int32))] [(.ref a_REAL32)])
    obtain ⟨T44, L44, v44, X44, ⟨rfl, rfl, q44⟩, st44⟩ := own_callV X31 hx hZ (y := (⟨"com/example/quern/quern/model/CimType", "isText", "()Z"⟩ : MethodName)) (z := (⟨"com/example/quern/quern/model/CimType", "isText", "()Z"⟩ : MethodName)) hown (hw _ (List.mem_of_getElem? (i := 35) rfl)) (hw _ (List.mem_of_getElem? (i := 36) rfl)) (hw _ (List.mem_of_getElem? (i := 38) rfl)) (hw _ (List.mem_of_getElem? (i := 38) rfl)) (hw _ (List.mem_of_getElem? (i := 37) rfl)) (hw _ (List.mem_of_getElem? (i := 39) rfl)) (hw _ (List.mem_of_getElem? (i := 4) rfl)) (notFace_of_selects (args := #[]) (mvT hZ (hw _ (List.mem_of_getElem? (i := 38) rfl)))) (by decide) (c_isText l Z a0 hw a_BOOLEAN a_STRING a_CHAR16 a_UINT8 a_SINT8 a_UINT16 a_SINT16 a_UINT32 a_SINT32 a_UINT64 a_SINT64 a_REAL32 a_REAL64 a_DATETIME a_REFERENCE a_REAL32 h31 (own_B_ext x31 B) ) e31 (E_REAL32.ext x31) (argsL := []) (rest := []) (g := (mkF m 135 #[.val (.int i0), .val (.int (11 : Int32)), .val (.ref a1), .val (.ref a_REAL32), .val (.int (0 : Int32))] [(.ref a_REAL32)])) rfl (by rw [hml]; rfl) (ps := []) (r := (some .boolean)) (by decide +kernel) rfl rfl (W := 0) (by show 2 * 0 + _ ≤ _; exact Nat.le_of_eq rfl) (hb hby at_135) (by decide) (by decide) (by decide) (by decide)
    have N44 := Fr.app N31 (Fr.nil n0)
    refine own_go st44 ?_
    show own_G p e below _ T44 (mkF m 138 #[.val (.int i0), .val (.int (11 : Int32)), .val (.ref a1), .val (.ref a_REAL32), .val (.int (0 : Int32))] [(.int (own_isText a_BOOLEAN a_STRING a_CHAR16 a_UINT8 a_SINT8 a_UINT16 a_SINT16 a_UINT32 a_SINT32 a_UINT64 a_SINT64 a_REAL32 a_REAL64 a_DATETIME a_REFERENCE a_REAL32))])
    have r44 : (own_isText a_BOOLEAN a_STRING a_CHAR16 a_UINT8 a_SINT8 a_UINT16 a_SINT16 a_UINT32 a_SINT32 a_UINT64 a_SINT64 a_REAL32 a_REAL64 a_DATETIME a_REFERENCE a_REAL32) = (0 : Int32) := by unfold own_isText; rw [if_neg (Fld.ne F_REAL32_ordinal F_STRING_ordinal (own_neV (by decide))), if_neg (Fld.ne F_REAL32_ordinal F_CHAR16_ordinal (own_neV (by decide)))]; rfl
    rw [r44]
    show own_G p e below _ T44 (mkF m 138 #[.val (.int i0), .val (.int (11 : Int32)), .val (.ref a1), .val (.ref a_REAL32), .val (.int (0 : Int32))] [(.int (0 : Int32))])
    refine own_go (fun t k => XS.iload X44.here hx rfl (hb hby at_138) rfl k) ?_
    show own_G p e below _ T44 (mkF m 140 #[.val (.int i0), .val (.int (11 : Int32)), .val (.ref a1), .val (.ref a_REAL32), .val (.int (0 : Int32))] [(.int (0 : Int32)), (.int (0 : Int32))])
    refine own_go (fun t k => XS.icmpNo X44.here hx rfl (hb hby at_140) rfl (by decide) k) ?_
    show own_G p e below _ T44 (mkF m 143 #[.val (.int i0), .val (.int (11 : Int32)), .val (.ref a1), .val (.ref a_REAL32), .val (.int (0 : Int32))] [])
    refine own_go (fun t k => XS.iconst X44.here hx rfl (hb hby at_143) k) ?_
    show own_G p e below _ T44 (mkF m 144 #[.val (.int i0), .val (.int (11 : Int32)), .val (.ref a1), .val (.ref a_REAL32), .val (.int (0 : Int32))] [(.int (1 : Int32))])
    refine own_go (fun t k => XS.goto X44.here hx rfl (pc0 := 144) (pc' := 148) rfl (hb hby at_144) (by decide) (by decide) k) ?_
    show own_G p e below _ T44 (mkF m 148 #[.val (.int i0), .val (.int (11 : Int32)), .val (.ref a1), .val (.ref a_REAL32), .val (.int (0 : Int32))] [(.int (1 : Int32))])
    exact own_retN X44 hx hlk hret (by simp) (hb hby at_148) (by decide) (by decide) ⟨rfl, N44⟩
  · rw [hk32]
    show own_G p e below _ T31 (mkF m 113 #[.val (.int i0), .val (.int (12 : Int32)), .val (.ref a1), .unset, .unset] [])
    refine own_go (fun t k => XS.aloadN X31.here hx rfl (hb hby at_113) rfl rfl k) ?_
    show own_G p e below _ T31 (mkF m 114 #[.val (.int i0), .val (.int (12 : Int32)), .val (.ref a1), .unset, .unset] [(.ref a1)])
    refine own_go (fun t k => XS.iloadN X31.here hx rfl (hb hby at_114) rfl k) ?_
    show own_G p e below _ T31 (mkF m 115 #[.val (.int i0), .val (.int (12 : Int32)), .val (.ref a1), .unset, .unset] [(.int (12 : Int32)), (.ref a1)])
    refine own_go (X31.aaload hx (j := (12 : Int32)) (v := (.ref a_REAL64)) (by rw [e31]; exact A31.1) (State.isArrayOf_alike hZ.alike A31.2.1) rfl A31.2.2 (own_in (n := 15) rfl (by decide)) rfl (g := (mkF m 115 #[.val (.int i0), .val (.int (12 : Int32)), .val (.ref a1), .unset, .unset] [(.int (12 : Int32)), (.ref a1)])) rfl rfl (hb hby at_115)) ?_
    show own_G p e below _ T31 (mkF m 116 #[.val (.int i0), .val (.int (12 : Int32)), .val (.ref a1), .unset, .unset] [(.ref a_REAL64)])
    refine own_go (fun t k => XS.astoreN X31.here hx rfl (hb hby at_116) rfl rfl (l' := #[.val (.int i0), .val (.int (12 : Int32)), .val (.ref a1), .val (.ref a_REAL64), .unset]) rfl k) ?_
    show own_G p e below _ T31 (mkF m 117 #[.val (.int i0), .val (.int (12 : Int32)), .val (.ref a1), .val (.ref a_REAL64), .unset] [])
    refine own_go (fun t k => XS.iloadN X31.here hx rfl (hb hby at_117) rfl k) ?_
    show own_G p e below _ T31 (mkF m 118 #[.val (.int i0), .val (.int (12 : Int32)), .val (.ref a1), .val (.ref a_REAL64), .unset] [(.int (12 : Int32))])
    refine own_go (fun t k => XS.iconst X31.here hx rfl (hb hby at_118) k) ?_
    show own_G p e below _ T31 (mkF m 119 #[.val (.int i0), .val (.int (12 : Int32)), .val (.ref a1), .val (.ref a_REAL64), .unset] [(.int (1 : Int32)), (.int (12 : Int32))])
    refine own_go (fun t k => XS.icmpNo X31.here hx rfl (hb hby at_119) rfl (by decide) k) ?_
    show own_G p e below _ T31 (mkF m 122 #[.val (.int i0), .val (.int (12 : Int32)), .val (.ref a1), .val (.ref a_REAL64), .unset] [])
    refine own_go (fun t k => XS.iloadN X31.here hx rfl (hb hby at_122) rfl k) ?_
    show own_G p e below _ T31 (mkF m 123 #[.val (.int i0), .val (.int (12 : Int32)), .val (.ref a1), .val (.ref a_REAL64), .unset] [(.int (12 : Int32))])
    refine own_go (fun t k => XS.iconst X31.here hx rfl (hb hby at_123) k) ?_
    show own_G p e below _ T31 (mkF m 124 #[.val (.int i0), .val (.int (12 : Int32)), .val (.ref a1), .val (.ref a_REAL64), .unset] [(.int (2 : Int32)), (.int (12 : Int32))])
    refine own_go (fun t k => XS.icmpYes X31.here hx rfl (pc0 := 124) (pc' := 131) rfl (hb hby at_124) rfl (by decide) (by decide) (by decide) k) ?_
    show own_G p e below _ T31 (mkF m 131 #[.val (.int i0), .val (.int (12 : Int32)), .val (.ref a1), .val (.ref a_REAL64), .unset] [])
    refine own_go (fun t k => XS.iconst X31.here hx rfl (hb hby at_131) k) ?_
    show own_G p e below _ T31 (mkF m 132 #[.val (.int i0), .val (.int (12 : Int32)), .val (.ref a1), .val (.ref a_REAL64), .unset] [(.int (0 : Int32))])
    refine own_go (fun t k => XS.istore X31.here hx rfl (hb hby at_132) rfl (l' := #[.val (.int i0), .val (.int (12 : Int32)), .val (.ref a1), .val (.ref a_REAL64), .val (.int (0 : Int32))]) rfl k) ?_
    show own_G p e below _ T31 (mkF m 134 #[.val (.int i0), .val (.int (12 : Int32)), .val (.ref a1), .val (.ref a_REAL64), .val (.int (0 : Int32))] [])
    refine own_go (fun t k => XS.aloadN X31.here hx rfl (hb hby at_134) rfl rfl k) ?_
    show own_G p e below _ T31 (mkF m 135 #[.val (.int i0), .val (.int (12 : Int32)), .val (.ref a1), .val (.ref a_REAL64), .val (.int (0 : Int32))] [(.ref a_REAL64)])
    obtain ⟨T45, L45, v45, X45, ⟨rfl, rfl, q45⟩, st45⟩ := own_callV X31 hx hZ (y := (⟨"com/example/quern/quern/model/CimType", "isText", "()Z"⟩ : MethodName)) (z := (⟨"com/example/quern/quern/model/CimType", "isText", "()Z"⟩ : MethodName)) hown (hw _ (List.mem_of_getElem? (i := 35) rfl)) (hw _ (List.mem_of_getElem? (i := 36) rfl)) (hw _ (List.mem_of_getElem? (i := 38) rfl)) (hw _ (List.mem_of_getElem? (i := 38) rfl)) (hw _ (List.mem_of_getElem? (i := 37) rfl)) (hw _ (List.mem_of_getElem? (i := 39) rfl)) (hw _ (List.mem_of_getElem? (i := 4) rfl)) (notFace_of_selects (args := #[]) (mvT hZ (hw _ (List.mem_of_getElem? (i := 38) rfl)))) (by decide) (c_isText l Z a0 hw a_BOOLEAN a_STRING a_CHAR16 a_UINT8 a_SINT8 a_UINT16 a_SINT16 a_UINT32 a_SINT32 a_UINT64 a_SINT64 a_REAL32 a_REAL64 a_DATETIME a_REFERENCE a_REAL64 h31 (own_B_ext x31 B) ) e31 (E_REAL64.ext x31) (argsL := []) (rest := []) (g := (mkF m 135 #[.val (.int i0), .val (.int (12 : Int32)), .val (.ref a1), .val (.ref a_REAL64), .val (.int (0 : Int32))] [(.ref a_REAL64)])) rfl (by rw [hml]; rfl) (ps := []) (r := (some .boolean)) (by decide +kernel) rfl rfl (W := 0) (by show 2 * 0 + _ ≤ _; exact Nat.le_of_eq rfl) (hb hby at_135) (by decide) (by decide) (by decide) (by decide)
    have N45 := Fr.app N31 (Fr.nil n0)
    refine own_go st45 ?_
    show own_G p e below _ T45 (mkF m 138 #[.val (.int i0), .val (.int (12 : Int32)), .val (.ref a1), .val (.ref a_REAL64), .val (.int (0 : Int32))] [(.int (own_isText a_BOOLEAN a_STRING a_CHAR16 a_UINT8 a_SINT8 a_UINT16 a_SINT16 a_UINT32 a_SINT32 a_UINT64 a_SINT64 a_REAL32 a_REAL64 a_DATETIME a_REFERENCE a_REAL64))])
    have r45 : (own_isText a_BOOLEAN a_STRING a_CHAR16 a_UINT8 a_SINT8 a_UINT16 a_SINT16 a_UINT32 a_SINT32 a_UINT64 a_SINT64 a_REAL32 a_REAL64 a_DATETIME a_REFERENCE a_REAL64) = (0 : Int32) := by unfold own_isText; rw [if_neg (Fld.ne F_REAL64_ordinal F_STRING_ordinal (own_neV (by decide))), if_neg (Fld.ne F_REAL64_ordinal F_CHAR16_ordinal (own_neV (by decide)))]; rfl
    rw [r45]
    show own_G p e below _ T45 (mkF m 138 #[.val (.int i0), .val (.int (12 : Int32)), .val (.ref a1), .val (.ref a_REAL64), .val (.int (0 : Int32))] [(.int (0 : Int32))])
    refine own_go (fun t k => XS.iload X45.here hx rfl (hb hby at_138) rfl k) ?_
    show own_G p e below _ T45 (mkF m 140 #[.val (.int i0), .val (.int (12 : Int32)), .val (.ref a1), .val (.ref a_REAL64), .val (.int (0 : Int32))] [(.int (0 : Int32)), (.int (0 : Int32))])
    refine own_go (fun t k => XS.icmpNo X45.here hx rfl (hb hby at_140) rfl (by decide) k) ?_
    show own_G p e below _ T45 (mkF m 143 #[.val (.int i0), .val (.int (12 : Int32)), .val (.ref a1), .val (.ref a_REAL64), .val (.int (0 : Int32))] [])
    refine own_go (fun t k => XS.iconst X45.here hx rfl (hb hby at_143) k) ?_
    show own_G p e below _ T45 (mkF m 144 #[.val (.int i0), .val (.int (12 : Int32)), .val (.ref a1), .val (.ref a_REAL64), .val (.int (0 : Int32))] [(.int (1 : Int32))])
    refine own_go (fun t k => XS.goto X45.here hx rfl (pc0 := 144) (pc' := 148) rfl (hb hby at_144) (by decide) (by decide) k) ?_
    show own_G p e below _ T45 (mkF m 148 #[.val (.int i0), .val (.int (12 : Int32)), .val (.ref a1), .val (.ref a_REAL64), .val (.int (0 : Int32))] [(.int (1 : Int32))])
    exact own_retN X45 hx hlk hret (by simp) (hb hby at_148) (by decide) (by decide) ⟨rfl, N45⟩
  · rw [hk32]
    show own_G p e below _ T31 (mkF m 113 #[.val (.int i0), .val (.int (13 : Int32)), .val (.ref a1), .unset, .unset] [])
    refine own_go (fun t k => XS.aloadN X31.here hx rfl (hb hby at_113) rfl rfl k) ?_
    show own_G p e below _ T31 (mkF m 114 #[.val (.int i0), .val (.int (13 : Int32)), .val (.ref a1), .unset, .unset] [(.ref a1)])
    refine own_go (fun t k => XS.iloadN X31.here hx rfl (hb hby at_114) rfl k) ?_
    show own_G p e below _ T31 (mkF m 115 #[.val (.int i0), .val (.int (13 : Int32)), .val (.ref a1), .unset, .unset] [(.int (13 : Int32)), (.ref a1)])
    refine own_go (X31.aaload hx (j := (13 : Int32)) (v := (.ref a_DATETIME)) (by rw [e31]; exact A31.1) (State.isArrayOf_alike hZ.alike A31.2.1) rfl A31.2.2 (own_in (n := 15) rfl (by decide)) rfl (g := (mkF m 115 #[.val (.int i0), .val (.int (13 : Int32)), .val (.ref a1), .unset, .unset] [(.int (13 : Int32)), (.ref a1)])) rfl rfl (hb hby at_115)) ?_
    show own_G p e below _ T31 (mkF m 116 #[.val (.int i0), .val (.int (13 : Int32)), .val (.ref a1), .unset, .unset] [(.ref a_DATETIME)])
    refine own_go (fun t k => XS.astoreN X31.here hx rfl (hb hby at_116) rfl rfl (l' := #[.val (.int i0), .val (.int (13 : Int32)), .val (.ref a1), .val (.ref a_DATETIME), .unset]) rfl k) ?_
    show own_G p e below _ T31 (mkF m 117 #[.val (.int i0), .val (.int (13 : Int32)), .val (.ref a1), .val (.ref a_DATETIME), .unset] [])
    refine own_go (fun t k => XS.iloadN X31.here hx rfl (hb hby at_117) rfl k) ?_
    show own_G p e below _ T31 (mkF m 118 #[.val (.int i0), .val (.int (13 : Int32)), .val (.ref a1), .val (.ref a_DATETIME), .unset] [(.int (13 : Int32))])
    refine own_go (fun t k => XS.iconst X31.here hx rfl (hb hby at_118) k) ?_
    show own_G p e below _ T31 (mkF m 119 #[.val (.int i0), .val (.int (13 : Int32)), .val (.ref a1), .val (.ref a_DATETIME), .unset] [(.int (1 : Int32)), (.int (13 : Int32))])
    refine own_go (fun t k => XS.icmpNo X31.here hx rfl (hb hby at_119) rfl (by decide) k) ?_
    show own_G p e below _ T31 (mkF m 122 #[.val (.int i0), .val (.int (13 : Int32)), .val (.ref a1), .val (.ref a_DATETIME), .unset] [])
    refine own_go (fun t k => XS.iloadN X31.here hx rfl (hb hby at_122) rfl k) ?_
    show own_G p e below _ T31 (mkF m 123 #[.val (.int i0), .val (.int (13 : Int32)), .val (.ref a1), .val (.ref a_DATETIME), .unset] [(.int (13 : Int32))])
    refine own_go (fun t k => XS.iconst X31.here hx rfl (hb hby at_123) k) ?_
    show own_G p e below _ T31 (mkF m 124 #[.val (.int i0), .val (.int (13 : Int32)), .val (.ref a1), .val (.ref a_DATETIME), .unset] [(.int (2 : Int32)), (.int (13 : Int32))])
    refine own_go (fun t k => XS.icmpYes X31.here hx rfl (pc0 := 124) (pc' := 131) rfl (hb hby at_124) rfl (by decide) (by decide) (by decide) k) ?_
    show own_G p e below _ T31 (mkF m 131 #[.val (.int i0), .val (.int (13 : Int32)), .val (.ref a1), .val (.ref a_DATETIME), .unset] [])
    refine own_go (fun t k => XS.iconst X31.here hx rfl (hb hby at_131) k) ?_
    show own_G p e below _ T31 (mkF m 132 #[.val (.int i0), .val (.int (13 : Int32)), .val (.ref a1), .val (.ref a_DATETIME), .unset] [(.int (0 : Int32))])
    refine own_go (fun t k => XS.istore X31.here hx rfl (hb hby at_132) rfl (l' := #[.val (.int i0), .val (.int (13 : Int32)), .val (.ref a1), .val (.ref a_DATETIME), .val (.int (0 : Int32))]) rfl k) ?_
    show own_G p e below _ T31 (mkF m 134 #[.val (.int i0), .val (.int (13 : Int32)), .val (.ref a1), .val (.ref a_DATETIME), .val (.int (0 : Int32))] [])
    refine own_go (fun t k => XS.aloadN X31.here hx rfl (hb hby at_134) rfl rfl k) ?_
    show own_G p e below _ T31 (mkF m 135 #[.val (.int i0), .val (.int (13 : Int32)), .val (.ref a1), .val (.ref a_DATETIME), .val (.int (0 : Int32))] [(.ref a_DATETIME)])
    obtain ⟨T46, L46, v46, X46, ⟨rfl, rfl, q46⟩, st46⟩ := own_callV X31 hx hZ (y := (⟨"com/example/quern/quern/model/CimType", "isText", "()Z"⟩ : MethodName)) (z := (⟨"com/example/quern/quern/model/CimType", "isText", "()Z"⟩ : MethodName)) hown (hw _ (List.mem_of_getElem? (i := 35) rfl)) (hw _ (List.mem_of_getElem? (i := 36) rfl)) (hw _ (List.mem_of_getElem? (i := 38) rfl)) (hw _ (List.mem_of_getElem? (i := 38) rfl)) (hw _ (List.mem_of_getElem? (i := 37) rfl)) (hw _ (List.mem_of_getElem? (i := 39) rfl)) (hw _ (List.mem_of_getElem? (i := 4) rfl)) (notFace_of_selects (args := #[]) (mvT hZ (hw _ (List.mem_of_getElem? (i := 38) rfl)))) (by decide) (c_isText l Z a0 hw a_BOOLEAN a_STRING a_CHAR16 a_UINT8 a_SINT8 a_UINT16 a_SINT16 a_UINT32 a_SINT32 a_UINT64 a_SINT64 a_REAL32 a_REAL64 a_DATETIME a_REFERENCE a_DATETIME h31 (own_B_ext x31 B) ) e31 (E_DATETIME.ext x31) (argsL := []) (rest := []) (g := (mkF m 135 #[.val (.int i0), .val (.int (13 : Int32)), .val (.ref a1), .val (.ref a_DATETIME), .val (.int (0 : Int32))] [(.ref a_DATETIME)])) rfl (by rw [hml]; rfl) (ps := []) (r := (some .boolean)) (by decide +kernel) rfl rfl (W := 0) (by show 2 * 0 + _ ≤ _; exact Nat.le_of_eq rfl) (hb hby at_135) (by decide) (by decide) (by decide) (by decide)
    have N46 := Fr.app N31 (Fr.nil n0)
    refine own_go st46 ?_
    show own_G p e below _ T46 (mkF m 138 #[.val (.int i0), .val (.int (13 : Int32)), .val (.ref a1), .val (.ref a_DATETIME), .val (.int (0 : Int32))] [(.int (own_isText a_BOOLEAN a_STRING a_CHAR16 a_UINT8 a_SINT8 a_UINT16 a_SINT16 a_UINT32 a_SINT32 a_UINT64 a_SINT64 a_REAL32 a_REAL64 a_DATETIME a_REFERENCE a_DATETIME))])
    have r46 : (own_isText a_BOOLEAN a_STRING a_CHAR16 a_UINT8 a_SINT8 a_UINT16 a_SINT16 a_UINT32 a_SINT32 a_UINT64 a_SINT64 a_REAL32 a_REAL64 a_DATETIME a_REFERENCE a_DATETIME) = (0 : Int32) := by unfold own_isText; rw [if_neg (Fld.ne F_DATETIME_ordinal F_STRING_ordinal (own_neV (by decide))), if_neg (Fld.ne F_DATETIME_ordinal F_CHAR16_ordinal (own_neV (by decide)))]; rfl
    rw [r46]
    show own_G p e below _ T46 (mkF m 138 #[.val (.int i0), .val (.int (13 : Int32)), .val (.ref a1), .val (.ref a_DATETIME), .val (.int (0 : Int32))] [(.int (0 : Int32))])
    refine own_go (fun t k => XS.iload X46.here hx rfl (hb hby at_138) rfl k) ?_
    show own_G p e below _ T46 (mkF m 140 #[.val (.int i0), .val (.int (13 : Int32)), .val (.ref a1), .val (.ref a_DATETIME), .val (.int (0 : Int32))] [(.int (0 : Int32)), (.int (0 : Int32))])
    refine own_go (fun t k => XS.icmpNo X46.here hx rfl (hb hby at_140) rfl (by decide) k) ?_
    show own_G p e below _ T46 (mkF m 143 #[.val (.int i0), .val (.int (13 : Int32)), .val (.ref a1), .val (.ref a_DATETIME), .val (.int (0 : Int32))] [])
    refine own_go (fun t k => XS.iconst X46.here hx rfl (hb hby at_143) k) ?_
    show own_G p e below _ T46 (mkF m 144 #[.val (.int i0), .val (.int (13 : Int32)), .val (.ref a1), .val (.ref a_DATETIME), .val (.int (0 : Int32))] [(.int (1 : Int32))])
    refine own_go (fun t k => XS.goto X46.here hx rfl (pc0 := 144) (pc' := 148) rfl (hb hby at_144) (by decide) (by decide) k) ?_
    show own_G p e below _ T46 (mkF m 148 #[.val (.int i0), .val (.int (13 : Int32)), .val (.ref a1), .val (.ref a_DATETIME), .val (.int (0 : Int32))] [(.int (1 : Int32))])
    exact own_retN X46 hx hlk hret (by simp) (hb hby at_148) (by decide) (by decide) ⟨rfl, N46⟩
  · rw [hk32]
    show own_G p e below _ T31 (mkF m 113 #[.val (.int i0), .val (.int (14 : Int32)), .val (.ref a1), .unset, .unset] [])
    refine own_go (fun t k => XS.aloadN X31.here hx rfl (hb hby at_113) rfl rfl k) ?_
    show own_G p e below _ T31 (mkF m 114 #[.val (.int i0), .val (.int (14 : Int32)), .val (.ref a1), .unset, .unset] [(.ref a1)])
    refine own_go (fun t k => XS.iloadN X31.here hx rfl (hb hby at_114) rfl k) ?_
    show own_G p e below _ T31 (mkF m 115 #[.val (.int i0), .val (.int (14 : Int32)), .val (.ref a1), .unset, .unset] [(.int (14 : Int32)), (.ref a1)])
    refine own_go (X31.aaload hx (j := (14 : Int32)) (v := (.ref a_REFERENCE)) (by rw [e31]; exact A31.1) (State.isArrayOf_alike hZ.alike A31.2.1) rfl A31.2.2 (own_in (n := 15) rfl (by decide)) rfl (g := (mkF m 115 #[.val (.int i0), .val (.int (14 : Int32)), .val (.ref a1), .unset, .unset] [(.int (14 : Int32)), (.ref a1)])) rfl rfl (hb hby at_115)) ?_
    show own_G p e below _ T31 (mkF m 116 #[.val (.int i0), .val (.int (14 : Int32)), .val (.ref a1), .unset, .unset] [(.ref a_REFERENCE)])
    refine own_go (fun t k => XS.astoreN X31.here hx rfl (hb hby at_116) rfl rfl (l' := #[.val (.int i0), .val (.int (14 : Int32)), .val (.ref a1), .val (.ref a_REFERENCE), .unset]) rfl k) ?_
    show own_G p e below _ T31 (mkF m 117 #[.val (.int i0), .val (.int (14 : Int32)), .val (.ref a1), .val (.ref a_REFERENCE), .unset] [])
    refine own_go (fun t k => XS.iloadN X31.here hx rfl (hb hby at_117) rfl k) ?_
    show own_G p e below _ T31 (mkF m 118 #[.val (.int i0), .val (.int (14 : Int32)), .val (.ref a1), .val (.ref a_REFERENCE), .unset] [(.int (14 : Int32))])
    refine own_go (fun t k => XS.iconst X31.here hx rfl (hb hby at_118) k) ?_
    show own_G p e below _ T31 (mkF m 119 #[.val (.int i0), .val (.int (14 : Int32)), .val (.ref a1), .val (.ref a_REFERENCE), .unset] [(.int (1 : Int32)), (.int (14 : Int32))])
    refine own_go (fun t k => XS.icmpNo X31.here hx rfl (hb hby at_119) rfl (by decide) k) ?_
    show own_G p e below _ T31 (mkF m 122 #[.val (.int i0), .val (.int (14 : Int32)), .val (.ref a1), .val (.ref a_REFERENCE), .unset] [])
    refine own_go (fun t k => XS.iloadN X31.here hx rfl (hb hby at_122) rfl k) ?_
    show own_G p e below _ T31 (mkF m 123 #[.val (.int i0), .val (.int (14 : Int32)), .val (.ref a1), .val (.ref a_REFERENCE), .unset] [(.int (14 : Int32))])
    refine own_go (fun t k => XS.iconst X31.here hx rfl (hb hby at_123) k) ?_
    show own_G p e below _ T31 (mkF m 124 #[.val (.int i0), .val (.int (14 : Int32)), .val (.ref a1), .val (.ref a_REFERENCE), .unset] [(.int (2 : Int32)), (.int (14 : Int32))])
    refine own_go (fun t k => XS.icmpYes X31.here hx rfl (pc0 := 124) (pc' := 131) rfl (hb hby at_124) rfl (by decide) (by decide) (by decide) k) ?_
    show own_G p e below _ T31 (mkF m 131 #[.val (.int i0), .val (.int (14 : Int32)), .val (.ref a1), .val (.ref a_REFERENCE), .unset] [])
    refine own_go (fun t k => XS.iconst X31.here hx rfl (hb hby at_131) k) ?_
    show own_G p e below _ T31 (mkF m 132 #[.val (.int i0), .val (.int (14 : Int32)), .val (.ref a1), .val (.ref a_REFERENCE), .unset] [(.int (0 : Int32))])
    refine own_go (fun t k => XS.istore X31.here hx rfl (hb hby at_132) rfl (l' := #[.val (.int i0), .val (.int (14 : Int32)), .val (.ref a1), .val (.ref a_REFERENCE), .val (.int (0 : Int32))]) rfl k) ?_
    show own_G p e below _ T31 (mkF m 134 #[.val (.int i0), .val (.int (14 : Int32)), .val (.ref a1), .val (.ref a_REFERENCE), .val (.int (0 : Int32))] [])
    refine own_go (fun t k => XS.aloadN X31.here hx rfl (hb hby at_134) rfl rfl k) ?_
    show own_G p e below _ T31 (mkF m 135 #[.val (.int i0), .val (.int (14 : Int32)), .val (.ref a1), .val (.ref a_REFERENCE), .val (.int (0 : Int32))] [(.ref a_REFERENCE)])
    obtain ⟨T47, L47, v47, X47, ⟨rfl, rfl, q47⟩, st47⟩ := own_callV X31 hx hZ (y := (⟨"com/example/quern/quern/model/CimType", "isText", "()Z"⟩ : MethodName)) (z := (⟨"com/example/quern/quern/model/CimType", "isText", "()Z"⟩ : MethodName)) hown (hw _ (List.mem_of_getElem? (i := 35) rfl)) (hw _ (List.mem_of_getElem? (i := 36) rfl)) (hw _ (List.mem_of_getElem? (i := 38) rfl)) (hw _ (List.mem_of_getElem? (i := 38) rfl)) (hw _ (List.mem_of_getElem? (i := 37) rfl)) (hw _ (List.mem_of_getElem? (i := 39) rfl)) (hw _ (List.mem_of_getElem? (i := 4) rfl)) (notFace_of_selects (args := #[]) (mvT hZ (hw _ (List.mem_of_getElem? (i := 38) rfl)))) (by decide) (c_isText l Z a0 hw a_BOOLEAN a_STRING a_CHAR16 a_UINT8 a_SINT8 a_UINT16 a_SINT16 a_UINT32 a_SINT32 a_UINT64 a_SINT64 a_REAL32 a_REAL64 a_DATETIME a_REFERENCE a_REFERENCE h31 (own_B_ext x31 B) ) e31 (E_REFERENCE.ext x31) (argsL := []) (rest := []) (g := (mkF m 135 #[.val (.int i0), .val (.int (14 : Int32)), .val (.ref a1), .val (.ref a_REFERENCE), .val (.int (0 : Int32))] [(.ref a_REFERENCE)])) rfl (by rw [hml]; rfl) (ps := []) (r := (some .boolean)) (by decide +kernel) rfl rfl (W := 0) (by show 2 * 0 + _ ≤ _; exact Nat.le_of_eq rfl) (hb hby at_135) (by decide) (by decide) (by decide) (by decide)
    have N47 := Fr.app N31 (Fr.nil n0)
    refine own_go st47 ?_
    show own_G p e below _ T47 (mkF m 138 #[.val (.int i0), .val (.int (14 : Int32)), .val (.ref a1), .val (.ref a_REFERENCE), .val (.int (0 : Int32))] [(.int (own_isText a_BOOLEAN a_STRING a_CHAR16 a_UINT8 a_SINT8 a_UINT16 a_SINT16 a_UINT32 a_SINT32 a_UINT64 a_SINT64 a_REAL32 a_REAL64 a_DATETIME a_REFERENCE a_REFERENCE))])
    have r47 : (own_isText a_BOOLEAN a_STRING a_CHAR16 a_UINT8 a_SINT8 a_UINT16 a_SINT16 a_UINT32 a_SINT32 a_UINT64 a_SINT64 a_REAL32 a_REAL64 a_DATETIME a_REFERENCE a_REFERENCE) = (0 : Int32) := by unfold own_isText; rw [if_neg (Fld.ne F_REFERENCE_ordinal F_STRING_ordinal (own_neV (by decide))), if_neg (Fld.ne F_REFERENCE_ordinal F_CHAR16_ordinal (own_neV (by decide)))]; rfl
    rw [r47]
    show own_G p e below _ T47 (mkF m 138 #[.val (.int i0), .val (.int (14 : Int32)), .val (.ref a1), .val (.ref a_REFERENCE), .val (.int (0 : Int32))] [(.int (0 : Int32))])
    refine own_go (fun t k => XS.iload X47.here hx rfl (hb hby at_138) rfl k) ?_
    show own_G p e below _ T47 (mkF m 140 #[.val (.int i0), .val (.int (14 : Int32)), .val (.ref a1), .val (.ref a_REFERENCE), .val (.int (0 : Int32))] [(.int (0 : Int32)), (.int (0 : Int32))])
    refine own_go (fun t k => XS.icmpNo X47.here hx rfl (hb hby at_140) rfl (by decide) k) ?_
    show own_G p e below _ T47 (mkF m 143 #[.val (.int i0), .val (.int (14 : Int32)), .val (.ref a1), .val (.ref a_REFERENCE), .val (.int (0 : Int32))] [])
    refine own_go (fun t k => XS.iconst X47.here hx rfl (hb hby at_143) k) ?_
    show own_G p e below _ T47 (mkF m 144 #[.val (.int i0), .val (.int (14 : Int32)), .val (.ref a1), .val (.ref a_REFERENCE), .val (.int (0 : Int32))] [(.int (1 : Int32))])
    refine own_go (fun t k => XS.goto X47.here hx rfl (pc0 := 144) (pc' := 148) rfl (hb hby at_144) (by decide) (by decide) k) ?_
    show own_G p e below _ T47 (mkF m 148 #[.val (.int i0), .val (.int (14 : Int32)), .val (.ref a1), .val (.ref a_REFERENCE), .val (.int (0 : Int32))] [(.int (1 : Int32))])
    exact own_retN X47 hx hlk hret (by simp) (hb hby at_148) (by decide) (by decide) ⟨rfl, N47⟩
set_option maxRecDepth 65536 in
set_option maxHeartbeats 40000000 in
theorem comes_1 {Post : Tables → Env → Array Value → State → Outcome → State → Prop} (hpost : ∀ tb e args s v u, (limb_1_1.after args s (.returned v) u = true ∧ limb_1_2.after args s (.returned v) u = true ∧ True) → FrameEnd s (.returned v) u (Jvm.fieldLocs frame_1_writes args s ++ Jvm.arrayLocs frame_1_arrays args s ++ Jvm.staticLocs frame_1_statics s) 16 128 → Post tb e args s (.returned v) u) :
    ArmFor flags0 classFile x code maxLocals ret World_1 tables_1 room_1 Calls_1 rest_1 Pre_1 Post := by
  intro l hfl _ _ p e ha hc hk s m args below hf hA hF happ hP
  obtain ⟨hcalls, hrest, hpre⟩ := hP
  obtain ⟨-, -, -, hnamed, -, -, -, hat⟩ := (Spec.applies_iff hf).mp happ
  obtain ⟨hg, hn⟩ := and_e (Cond.before_iff.mp (show (Jvm.Cond.and given_1 narrow_1).before args s = true from hpre))
  obtain ⟨h1, hg⟩ := and_e hg
  obtain ⟨w0, rfl⟩ : ∃ w0 : Value, args = #[w0] := by
    have hs : args.size = 1 := by simpa [Cond.value, given_1] using h1
    obtain ⟨L⟩ := args
    match L, hs with
    | [w0], _ => exact ⟨w0, rfl⟩
  obtain ⟨i0, ei0⟩ := is_v hg
  obtain rfl : w0 = (.int i0) := Option.some.inj ei0
  have hw := fun d (hd : d ∈ tables_1) => atoms_spec (ws := Jvm.Cond.code x code maxLocals ret :: tables_1) hat d (List.mem_cons_of_mem _ hd)
  obtain ⟨n0, hn⟩ := and_e hn
  obtain ⟨a_BOOLEAN, v_BOOLEAN⟩ := exa_v n0
  have S_BOOLEAN := Sta.start v_BOOLEAN (Or.inr ⟨(hw _ (List.mem_of_getElem? (i := 4) rfl)), (hw _ (List.mem_of_getElem? (i := 5) rfl))⟩)
  have E_BOOLEAN := Exa.start v_BOOLEAN n0
  obtain ⟨n1, hn⟩ := and_e hn
  obtain ⟨a_STRING, v_STRING⟩ := exa_v n1
  have S_STRING := Sta.start v_STRING (Or.inr ⟨(hw _ (List.mem_of_getElem? (i := 4) rfl)), (hw _ (List.mem_of_getElem? (i := 8) rfl))⟩)
  have E_STRING := Exa.start v_STRING n1
  obtain ⟨n2, hn⟩ := and_e hn
  obtain ⟨a_CHAR16, v_CHAR16⟩ := exa_v n2
  have S_CHAR16 := Sta.start v_CHAR16 (Or.inr ⟨(hw _ (List.mem_of_getElem? (i := 4) rfl)), (hw _ (List.mem_of_getElem? (i := 10) rfl))⟩)
  have E_CHAR16 := Exa.start v_CHAR16 n2
  obtain ⟨n3, hn⟩ := and_e hn
  obtain ⟨a_UINT8, v_UINT8⟩ := exa_v n3
  have S_UINT8 := Sta.start v_UINT8 (Or.inr ⟨(hw _ (List.mem_of_getElem? (i := 4) rfl)), (hw _ (List.mem_of_getElem? (i := 12) rfl))⟩)
  have E_UINT8 := Exa.start v_UINT8 n3
  obtain ⟨n4, hn⟩ := and_e hn
  obtain ⟨a_SINT8, v_SINT8⟩ := exa_v n4
  have S_SINT8 := Sta.start v_SINT8 (Or.inr ⟨(hw _ (List.mem_of_getElem? (i := 4) rfl)), (hw _ (List.mem_of_getElem? (i := 14) rfl))⟩)
  have E_SINT8 := Exa.start v_SINT8 n4
  obtain ⟨n5, hn⟩ := and_e hn
  obtain ⟨a_UINT16, v_UINT16⟩ := exa_v n5
  have S_UINT16 := Sta.start v_UINT16 (Or.inr ⟨(hw _ (List.mem_of_getElem? (i := 4) rfl)), (hw _ (List.mem_of_getElem? (i := 16) rfl))⟩)
  have E_UINT16 := Exa.start v_UINT16 n5
  obtain ⟨n6, hn⟩ := and_e hn
  obtain ⟨a_SINT16, v_SINT16⟩ := exa_v n6
  have S_SINT16 := Sta.start v_SINT16 (Or.inr ⟨(hw _ (List.mem_of_getElem? (i := 4) rfl)), (hw _ (List.mem_of_getElem? (i := 18) rfl))⟩)
  have E_SINT16 := Exa.start v_SINT16 n6
  obtain ⟨n7, hn⟩ := and_e hn
  obtain ⟨a_UINT32, v_UINT32⟩ := exa_v n7
  have S_UINT32 := Sta.start v_UINT32 (Or.inr ⟨(hw _ (List.mem_of_getElem? (i := 4) rfl)), (hw _ (List.mem_of_getElem? (i := 20) rfl))⟩)
  have E_UINT32 := Exa.start v_UINT32 n7
  obtain ⟨n8, hn⟩ := and_e hn
  obtain ⟨a_SINT32, v_SINT32⟩ := exa_v n8
  have S_SINT32 := Sta.start v_SINT32 (Or.inr ⟨(hw _ (List.mem_of_getElem? (i := 4) rfl)), (hw _ (List.mem_of_getElem? (i := 22) rfl))⟩)
  have E_SINT32 := Exa.start v_SINT32 n8
  obtain ⟨n9, hn⟩ := and_e hn
  obtain ⟨a_UINT64, v_UINT64⟩ := exa_v n9
  have S_UINT64 := Sta.start v_UINT64 (Or.inr ⟨(hw _ (List.mem_of_getElem? (i := 4) rfl)), (hw _ (List.mem_of_getElem? (i := 24) rfl))⟩)
  have E_UINT64 := Exa.start v_UINT64 n9
  obtain ⟨n10, hn⟩ := and_e hn
  obtain ⟨a_SINT64, v_SINT64⟩ := exa_v n10
  have S_SINT64 := Sta.start v_SINT64 (Or.inr ⟨(hw _ (List.mem_of_getElem? (i := 4) rfl)), (hw _ (List.mem_of_getElem? (i := 26) rfl))⟩)
  have E_SINT64 := Exa.start v_SINT64 n10
  obtain ⟨n11, hn⟩ := and_e hn
  obtain ⟨a_REAL32, v_REAL32⟩ := exa_v n11
  have S_REAL32 := Sta.start v_REAL32 (Or.inr ⟨(hw _ (List.mem_of_getElem? (i := 4) rfl)), (hw _ (List.mem_of_getElem? (i := 28) rfl))⟩)
  have E_REAL32 := Exa.start v_REAL32 n11
  obtain ⟨n12, hn⟩ := and_e hn
  obtain ⟨a_REAL64, v_REAL64⟩ := exa_v n12
  have S_REAL64 := Sta.start v_REAL64 (Or.inr ⟨(hw _ (List.mem_of_getElem? (i := 4) rfl)), (hw _ (List.mem_of_getElem? (i := 30) rfl))⟩)
  have E_REAL64 := Exa.start v_REAL64 n12
  obtain ⟨n13, hn⟩ := and_e hn
  obtain ⟨a_DATETIME, v_DATETIME⟩ := exa_v n13
  have S_DATETIME := Sta.start v_DATETIME (Or.inr ⟨(hw _ (List.mem_of_getElem? (i := 4) rfl)), (hw _ (List.mem_of_getElem? (i := 32) rfl))⟩)
  have E_DATETIME := Exa.start v_DATETIME n13
  obtain ⟨n14, hn⟩ := and_e hn
  obtain ⟨a_REFERENCE, v_REFERENCE⟩ := exa_v n14
  have S_REFERENCE := Sta.start v_REFERENCE (Or.inr ⟨(hw _ (List.mem_of_getElem? (i := 4) rfl)), (hw _ (List.mem_of_getElem? (i := 34) rfl))⟩)
  have E_REFERENCE := Exa.start v_REFERENCE n14
  obtain ⟨n15, hn⟩ := and_e hn
  have F_BOOLEAN_ordinal := own_fld v_BOOLEAN n15
  obtain ⟨n16, hn⟩ := and_e hn
  have F_STRING_ordinal := own_fld v_STRING n16
  obtain ⟨n17, hn⟩ := and_e hn
  have F_CHAR16_ordinal := own_fld v_CHAR16 n17
  obtain ⟨n18, hn⟩ := and_e hn
  have F_UINT8_ordinal := own_fld v_UINT8 n18
  obtain ⟨n19, hn⟩ := and_e hn
  have F_UINT16_ordinal := own_fld v_UINT16 n19
  obtain ⟨n20, hn⟩ := and_e hn
  have F_DATETIME_ordinal := own_fld v_DATETIME n20
  obtain ⟨n21, hn⟩ := and_e hn
  have F_SINT16_ordinal := own_fld v_SINT16 n21
  obtain ⟨n22, hn⟩ := and_e hn
  have F_REFERENCE_ordinal := own_fld v_REFERENCE n22
  obtain ⟨n23, hn⟩ := and_e hn
  have F_UINT32_ordinal := own_fld v_UINT32 n23
  obtain ⟨n24, hn⟩ := and_e hn
  have F_REAL32_ordinal := own_fld v_REAL32 n24
  obtain ⟨n25, hn⟩ := and_e hn
  have F_SINT64_ordinal := own_fld v_SINT64 n25
  obtain ⟨n26, hn⟩ := and_e hn
  have F_SINT32_ordinal := own_fld v_SINT32 n26
  obtain ⟨n27, hn⟩ := and_e hn
  have F_REAL64_ordinal := own_fld v_REAL64 n27
  obtain ⟨n28, hn⟩ := and_e hn
  have F_SINT8_ordinal := own_fld v_SINT8 n28
  have F_UINT64_ordinal := own_fld v_UINT64 hn
  have B : own_B s s.heap a_BOOLEAN a_STRING a_CHAR16 a_UINT8 a_SINT8 a_UINT16 a_SINT16 a_UINT32 a_SINT32 a_UINT64 a_SINT64 a_REAL32 a_REAL64 a_DATETIME a_REFERENCE := ⟨S_BOOLEAN, E_BOOLEAN, S_STRING, E_STRING, S_CHAR16, E_CHAR16, S_UINT8, E_UINT8, S_SINT8, E_SINT8, S_UINT16, E_UINT16, S_SINT16, E_SINT16, S_UINT32, E_UINT32, S_SINT32, E_SINT32, S_UINT64, E_UINT64, S_SINT64, E_SINT64, S_REAL32, E_REAL32, S_REAL64, E_REAL64, S_DATETIME, E_DATETIME, S_REFERENCE, E_REFERENCE, F_BOOLEAN_ordinal, F_STRING_ordinal, F_CHAR16_ordinal, F_UINT8_ordinal, F_UINT16_ordinal, F_DATETIME_ordinal, F_SINT16_ordinal, F_REFERENCE_ordinal, F_UINT32_ordinal, F_REAL32_ordinal, F_SINT64_ordinal, F_SINT32_ordinal, F_REAL64_ordinal, F_SINT8_ordinal, F_UINT64_ordinal⟩
  obtain ⟨n, o, h1, h2, h3, _, L, rfl, ⟨rfl, N⟩, hq⟩ := rm0 l s _ hw i0 a_BOOLEAN a_STRING a_CHAR16 a_UINT8 a_SINT8 a_UINT16 a_SINT16 a_UINT32 a_SINT32 a_UINT64 a_SINT64 a_REAL32 a_REAL64 a_DATETIME a_REFERENCE s.heap s.heap.size (Nat.le_refl _) B tables_1 p e ha hc hk s m _ below hf ((Spec.applies_iff_loose hf).mp happ).1 ⟨rfl, State.Warmed39.refl s, rfl⟩ trivial
  refine ⟨n, _, h1, h2, h3, hpost _ _ _ _ _ _ ⟨Jvm.Cond.after_iff.mpr rfl, Jvm.Cond.after_iff.mpr (eq_i res_at (Term.int_eval (1)) rfl), trivial⟩ ⟨hq.1, hq.2.1, (hq.2.2.sift fun y hy => Or.inr (N y hy)).mono (by decide) (by decide)⟩⟩
theorem main_1_1 : Claimed_1_1 := comes_1 fun _ _ _ _ _ _ h hF => ⟨h.1, hF⟩
theorem main_1_2 : Claimed_1_2 := comes_1 fun _ _ _ _ _ _ h hF => ⟨h.2.1, hF⟩
end Jvm.Pilot.@@N@@
namespace Jvm.Pilot.@@N@@
open Jvm Jvm.ClassFile Sem Op Lib Jvm.Free Jvm.Stand Jvm.Pilot.@@N@@.Jvm.D
/-! MADE BY PROGRAM (witnessworld.py) out of the Statement's table words and the real class files: 13 classes; the members and pool entries that the words name. The judged class is class 1, her method 1. -/
namespace start1
open Jvm.ClassFile
def u (s : String) : CpInfo := .utf8 (stringToUtf16 s)
/-- a pool by its gaps: so many unusable entries, then the entry; so many at the end -/
def gap : Nat → List CpInfo → List CpInfo
  | 0, r => r
  | n + 1, r => .unusable :: gap n r
def poolList (es : List (Nat × CpInfo)) (last : Nat) : List CpInfo := es.foldr (fun e r => gap e.1 (e.2 :: r)) (gap last [])
def pool (es : List (Nat × CpInfo)) (last : Nat) : Array CpInfo := ⟨poolList es last⟩
def fileOf (pool : Array CpInfo) (this : Nat) (attrs : Array Attribute := #[]) (ms : Array MethodInfo := #[]) (fl : Nat := 33) (sup : Nat := 0) (ifs : Array Nat := #[]) (fds : Array FieldInfo := #[]) : ClassFile where
  minorVersion := 0
  majorVersion := 65
  constantPool := pool
  accessFlags := fl
  thisClass := this
  superClass := sup
  interfaces := ifs
  fields := fds
  methods := ms
  attributes := attrs
def plain (name : String) (sup : Option ClassId) : Class where
  name := name
  kind := .ordinary
  loader := none
  accessFlags := 33
  super := sup
  interfaces := #[]
  cf := none
  fields := #[]
  methods := #[]
  instanceTypes := #[]
  staticTypes := #[]
  resolved := #[]
  callSites := []
  init := .initialized
  statics := none
  mirror := none

def pool0 : Array CpInfo := pool [(5, u "<init>"), (0, u "()V"), (1, .class_ 10), (1, u "java/lang/Object")] 113

def k0m0 : Method := { name := "<init>", desc := "()V", sig := { parameters := [], returnType := none }, accessFlags := 1, code := none }
/-- java/lang/Object -/
def k0 : Class := { plain "java/lang/Object" none with
  accessFlags := 33
  interfaces := #[]
  cf := some (fileOf pool0 8 #[] #[{ accessFlags := 1, nameIndex := 5, descriptorIndex := 6, attributes := #[] }] 33 0 #[] #[])
  fields := #[]
  methods := #[k0m0]
  instanceTypes := #[]
  staticTypes := #[]
  resolved := Array.replicate 124 none
  statics := none }

def pool1 : Array CpInfo := pool [(2, .class_ 4), (1, u "java/lang/Object"), (0, u "<init>"), (0, u "()V"), (0, .integer 2147483647), (0, .class_ 9), (0, u "com/example/quern/quern/model/CimType"), (0, .fieldref 8 11), (0, .nameAndType 12 13), (0, u "BOOLEAN"), (0, u "Lcom/example/quern/quern/model/CimType;"), (0, .fieldref 8 15), (0, .nameAndType 16 13), (0, u "STRING"), (0, .fieldref 8 18), (0, .nameAndType 19 13), (0, u "CHAR16"), (0, .fieldref 8 21), (0, .nameAndType 22 13), (0, u "UINT8"), (0, .fieldref 8 24), (0, .nameAndType 25 13), (0, u "SINT8"), (0, .fieldref 8 27), (0, .nameAndType 28 13), (0, u "UINT16"), (0, .fieldref 8 30), (0, .nameAndType 31 13), (0, u "SINT16"), (0, .fieldref 8 33), (0, .nameAndType 34 13), (0, u "UINT32"), (0, .fieldref 8 36), (0, .nameAndType 37 13), (0, u "SINT32"), (0, .fieldref 8 39), (0, .nameAndType 40 13), (0, u "UINT64"), (0, .fieldref 8 42), (0, .nameAndType 43 13), (0, u "SINT64"), (0, .fieldref 8 45), (0, .nameAndType 46 13), (0, u "REAL32"), (0, .fieldref 8 48), (0, .nameAndType 49 13), (0, u "REAL64"), (0, .fieldref 8 51), (0, .nameAndType 52 13), (0, u "DATETIME"), (0, .fieldref 8 54), (0, .nameAndType 55 13), (0, u "REFERENCE"), (0, .methodref 8 57), (0, .nameAndType 58 59), (0, u "isText"), (0, u "()Z"), (0, .class_ 61), (0, u "com/example/quern/quern/model/CimTypeIsTextPinLaw"), (2, u "law"), (0, u "(I)Z")] 5

def k1m0 : Method := { name := "<init>", desc := "()V", sig := { parameters := [], returnType := none }, accessFlags := 2, code := none }
def k1c1 : Code := { maxStack := 4, maxLocals := 5, code := code, exceptionTable := #[], attributes := #[] }
def k1m1 : Method := { name := "law", desc := "(I)Z", sig := { parameters := [.int], returnType := some .boolean }, accessFlags := 9, code := some k1c1 }
/-- com/example/quern/quern/model/CimTypeIsTextPinLaw -/
def k1 : Class := { plain "com/example/quern/quern/model/CimTypeIsTextPinLaw" (some 0) with
  accessFlags := 49
  interfaces := #[]
  cf := some (fileOf pool1 60 #[] #[{ accessFlags := 2, nameIndex := 5, descriptorIndex := 6, attributes := #[] }, { accessFlags := 9, nameIndex := 64, descriptorIndex := 65, attributes := #[] }] 49 2 #[] #[])
  fields := #[]
  methods := #[k1m0, k1m1]
  instanceTypes := #[]
  staticTypes := #[]
  resolved := Array.replicate 71 none
  statics := none }

def pool2 : Array CpInfo := pool [(1, .class_ 2), (0, u "java/lang/constant/Constable"), (0, .class_ 4), (0, u "java/lang/Object")] 6

/-- java/lang/constant/Constable -/
def k2 : Class := { plain "java/lang/constant/Constable" (some 0) with
  accessFlags := 1537
  interfaces := #[]
  cf := some (fileOf pool2 1 #[] #[] 1537 3 #[] #[])
  fields := #[]
  methods := #[]
  instanceTypes := #[]
  staticTypes := #[]
  resolved := Array.replicate 11 none
  statics := none }

def pool3 : Array CpInfo := pool [(1, .class_ 2), (0, u "java/lang/Comparable"), (0, .class_ 4), (0, u "java/lang/Object")] 7

/-- java/lang/Comparable -/
def k3 : Class := { plain "java/lang/Comparable" (some 0) with
  accessFlags := 1537
  interfaces := #[]
  cf := some (fileOf pool3 1 #[] #[] 1537 3 #[] #[])
  fields := #[]
  methods := #[]
  instanceTypes := #[]
  staticTypes := #[]
  resolved := Array.replicate 12 none
  statics := none }

def pool4 : Array CpInfo := pool [(1, .class_ 2), (0, u "java/io/Serializable"), (0, .class_ 4), (0, u "java/lang/Object")] 2

/-- java/io/Serializable -/
def k4 : Class := { plain "java/io/Serializable" (some 0) with
  accessFlags := 1537
  interfaces := #[]
  cf := some (fileOf pool4 1 #[] #[] 1537 3 #[] #[])
  fields := #[]
  methods := #[]
  instanceTypes := #[]
  staticTypes := #[]
  resolved := Array.replicate 7 none
  statics := none }

def pool5 : Array CpInfo := pool [(2, .class_ 4), (1, u "java/lang/Enum"), (0, u "name"), (0, u "Ljava/lang/String;"), (2, u "ordinal"), (0, u "I"), (1, .class_ 14), (1, u "java/lang/Object"), (4, u "hash"), (86, .class_ 108), (1, u "java/lang/Enum$EnumDesc"), (2, .class_ 112), (0, u "java/lang/constant/Constable"), (0, .class_ 114), (0, u "java/lang/Comparable"), (0, .class_ 116), (0, u "java/io/Serializable")] 87

/-- java/lang/Enum -/
def k5 : Class := { plain "java/lang/Enum" (some 0) with
  accessFlags := 1057
  interfaces := #[2, 3, 4]
  cf := some (fileOf pool5 2 #[.nestMembers #[106]] #[] 1057 12 #[111, 113, 115] #[{ accessFlags := 18, nameIndex := 5, descriptorIndex := 6, attributes := #[] }, { accessFlags := 18, nameIndex := 9, descriptorIndex := 10, attributes := #[] }, { accessFlags := 2, nameIndex := 19, descriptorIndex := 10, attributes := #[] }])
  fields := #[{ name := "name", type := (.object "java/lang/String"), accessFlags := 18, slot := 0, constantValue := 0 }, { name := "ordinal", type := .int, accessFlags := 18, slot := 1, constantValue := 0 }, { name := "hash", type := .int, accessFlags := 2, slot := 2, constantValue := 0 }]
  methods := #[]
  instanceTypes := #[(.object "java/lang/String"), .int, .int]
  staticTypes := #[]
  resolved := Array.replicate 204 none
  statics := none }

def pool6 : Array CpInfo := pool [(1, .class_ 2), (0, u "com/example/quern/quern/model/CimType"), (2, u "BOOLEAN"), (0, u "Lcom/example/quern/quern/model/CimType;"), (0, .fieldref 1 8), (0, .nameAndType 9 6), (0, u "STRING"), (0, .fieldref 1 11), (0, .nameAndType 12 6), (0, u "CHAR16"), (2, u "UINT8"), (2, u "SINT8"), (2, u "UINT16"), (2, u "SINT16"), (2, u "UINT32"), (2, u "SINT32"), (2, u "UINT64"), (2, u "SINT64"), (2, u "REAL32"), (2, u "REAL64"), (2, u "DATETIME"), (2, u "REFERENCE"), (2, u "$VALUES"), (0, u "[Lcom/example/quern/quern/model/CimType;"), (6, .class_ 61), (1, u "java/lang/Enum"), (8, u "dsp0004Name"), (0, u "Ljava/lang/String;"), (2, u "minimum"), (0, u "Ljava/math/BigInteger;"), (2, u "maximum"), (46, u "DECIMAL"), (0, u "Ljava/util/regex/Pattern;"), (11, u "()Z"), (11, u "HEXADECIMAL"), (204, u "isText")] 52

def k6c0 : Code := { maxStack := 2, maxLocals := 1, code := prog_44_method_9_code, exceptionTable := #[], attributes := #[] }
def k6m0 : Method := { name := "isText", desc := "()Z", sig := { parameters := [], returnType := some .boolean }, accessFlags := 1, code := some k6c0 }
/-- com/example/quern/quern/model/CimType -/
def k6 : Class := { plain "com/example/quern/quern/model/CimType" (some 5) with
  accessFlags := 16433
  interfaces := #[]
  cf := some (fileOf pool6 1 #[] #[{ accessFlags := 1, nameIndex := 355, descriptorIndex := 138, attributes := #[] }] 16433 59 #[] #[{ accessFlags := 16409, nameIndex := 5, descriptorIndex := 6, attributes := #[] }, { accessFlags := 16409, nameIndex := 9, descriptorIndex := 6, attributes := #[] }, { accessFlags := 16409, nameIndex := 12, descriptorIndex := 6, attributes := #[] }, { accessFlags := 16409, nameIndex := 15, descriptorIndex := 6, attributes := #[] }, { accessFlags := 16409, nameIndex := 18, descriptorIndex := 6, attributes := #[] }, { accessFlags := 16409, nameIndex := 21, descriptorIndex := 6, attributes := #[] }, { accessFlags := 16409, nameIndex := 24, descriptorIndex := 6, attributes := #[] }, { accessFlags := 16409, nameIndex := 27, descriptorIndex := 6, attributes := #[] }, { accessFlags := 16409, nameIndex := 30, descriptorIndex := 6, attributes := #[] }, { accessFlags := 16409, nameIndex := 33, descriptorIndex := 6, attributes := #[] }, { accessFlags := 16409, nameIndex := 36, descriptorIndex := 6, attributes := #[] }, { accessFlags := 16409, nameIndex := 39, descriptorIndex := 6, attributes := #[] }, { accessFlags := 16409, nameIndex := 42, descriptorIndex := 6, attributes := #[] }, { accessFlags := 16409, nameIndex := 45, descriptorIndex := 6, attributes := #[] }, { accessFlags := 16409, nameIndex := 48, descriptorIndex := 6, attributes := #[] }, { accessFlags := 26, nameIndex := 125, descriptorIndex := 126, attributes := #[] }, { accessFlags := 26, nameIndex := 150, descriptorIndex := 126, attributes := #[] }, { accessFlags := 18, nameIndex := 70, descriptorIndex := 71, attributes := #[] }, { accessFlags := 18, nameIndex := 74, descriptorIndex := 75, attributes := #[] }, { accessFlags := 18, nameIndex := 78, descriptorIndex := 75, attributes := #[] }, { accessFlags := 4122, nameIndex := 51, descriptorIndex := 52, attributes := #[] }])
  fields := #[{ name := "BOOLEAN", type := (.object "com/example/quern/quern/model/CimType"), accessFlags := 16409, slot := 0, constantValue := 0 }, { name := "STRING", type := (.object "com/example/quern/quern/model/CimType"), accessFlags := 16409, slot := 1, constantValue := 0 }, { name := "CHAR16", type := (.object "com/example/quern/quern/model/CimType"), accessFlags := 16409, slot := 2, constantValue := 0 }, { name := "UINT8", type := (.object "com/example/quern/quern/model/CimType"), accessFlags := 16409, slot := 3, constantValue := 0 }, { name := "SINT8", type := (.object "com/example/quern/quern/model/CimType"), accessFlags := 16409, slot := 4, constantValue := 0 }, { name := "UINT16", type := (.object "com/example/quern/quern/model/CimType"), accessFlags := 16409, slot := 5, constantValue := 0 }, { name := "SINT16", type := (.object "com/example/quern/quern/model/CimType"), accessFlags := 16409, slot := 6, constantValue := 0 }, { name := "UINT32", type := (.object "com/example/quern/quern/model/CimType"), accessFlags := 16409, slot := 7, constantValue := 0 }, { name := "SINT32", type := (.object "com/example/quern/quern/model/CimType"), accessFlags := 16409, slot := 8, constantValue := 0 }, { name := "UINT64", type := (.object "com/example/quern/quern/model/CimType"), accessFlags := 16409, slot := 9, constantValue := 0 }, { name := "SINT64", type := (.object "com/example/quern/quern/model/CimType"), accessFlags := 16409, slot := 10, constantValue := 0 }, { name := "REAL32", type := (.object "com/example/quern/quern/model/CimType"), accessFlags := 16409, slot := 11, constantValue := 0 }, { name := "REAL64", type := (.object "com/example/quern/quern/model/CimType"), accessFlags := 16409, slot := 12, constantValue := 0 }, { name := "DATETIME", type := (.object "com/example/quern/quern/model/CimType"), accessFlags := 16409, slot := 13, constantValue := 0 }, { name := "REFERENCE", type := (.object "com/example/quern/quern/model/CimType"), accessFlags := 16409, slot := 14, constantValue := 0 }, { name := "DECIMAL", type := (.object "java/util/regex/Pattern"), accessFlags := 26, slot := 15, constantValue := 0 }, { name := "HEXADECIMAL", type := (.object "java/util/regex/Pattern"), accessFlags := 26, slot := 16, constantValue := 0 }, { name := "dsp0004Name", type := (.object "java/lang/String"), accessFlags := 18, slot := 3, constantValue := 0 }, { name := "minimum", type := (.object "java/math/BigInteger"), accessFlags := 18, slot := 4, constantValue := 0 }, { name := "maximum", type := (.object "java/math/BigInteger"), accessFlags := 18, slot := 5, constantValue := 0 }, { name := "$VALUES", type := (.array (.object "com/example/quern/quern/model/CimType")), accessFlags := 4122, slot := 17, constantValue := 0 }]
  methods := #[k6m0]
  instanceTypes := #[(.object "java/lang/String"), .int, .int, (.object "java/lang/String"), (.object "java/math/BigInteger"), (.object "java/math/BigInteger")]
  staticTypes := #[(.object "com/example/quern/quern/model/CimType"), (.object "com/example/quern/quern/model/CimType"), (.object "com/example/quern/quern/model/CimType"), (.object "com/example/quern/quern/model/CimType"), (.object "com/example/quern/quern/model/CimType"), (.object "com/example/quern/quern/model/CimType"), (.object "com/example/quern/quern/model/CimType"), (.object "com/example/quern/quern/model/CimType"), (.object "com/example/quern/quern/model/CimType"), (.object "com/example/quern/quern/model/CimType"), (.object "com/example/quern/quern/model/CimType"), (.object "com/example/quern/quern/model/CimType"), (.object "com/example/quern/quern/model/CimType"), (.object "com/example/quern/quern/model/CimType"), (.object "com/example/quern/quern/model/CimType"), (.object "java/util/regex/Pattern"), (.object "java/util/regex/Pattern"), (.array (.object "com/example/quern/quern/model/CimType"))]
  resolved := Array.replicate 408 none
  statics := some 0 }

def pool7 : Array CpInfo := pool [(1, u "java/lang/Cloneable"), (0, .class_ 1), (0, u "java/lang/Object"), (0, .class_ 3)] 3

/-- java/lang/Cloneable -/
def k7 : Class := { plain "java/lang/Cloneable" (some 0) with
  accessFlags := 1537
  interfaces := #[]
  cf := some (fileOf pool7 2 #[] #[] 1537 4 #[] #[])
  fields := #[]
  methods := #[]
  instanceTypes := #[]
  staticTypes := #[]
  resolved := Array.replicate 8 none
  statics := none }

/-- the primitive byte -/
def k8 : Class := { plain "byte" none with kind := .primitive 'B', accessFlags := 0x411 }
/-- [B -/
def k9 : Class := { plain "[B" (some 0) with kind := .array 8 .byte, interfaces := #[7, 4], accessFlags := 1041 }

/-- the primitive int -/
def k10 : Class := { plain "int" none with kind := .primitive 'I', accessFlags := 0x411 }
/-- [I -/
def k11 : Class := { plain "[I" (some 0) with kind := .array 10 .int, interfaces := #[7, 4], accessFlags := 1041 }

/-- [Lcom/example/quern/quern/model/CimType; -/
def k12 : Class := { plain "[Lcom/example/quern/quern/model/CimType;" (some 0) with kind := .array 6 (.object "com/example/quern/quern/model/CimType"), interfaces := #[7, 4], accessFlags := 1041 }

def heap : Heap := #[{ cls := 6, slots := #[.ref 1, .ref 2, .ref 3, .ref 4, .ref 5, .ref 6, .ref 7, .ref 8, .ref 9, .ref 10, .ref 11, .ref 12, .ref 13, .ref 14, .ref 15, .null, .null, .null], vm := .statics 6 },
  { cls := 6, slots := #[.null, .int 0, .int 0, .null, .null, .null], vm := .none },
  { cls := 6, slots := #[.null, .int 1, .int 0, .null, .null, .null], vm := .none },
  { cls := 6, slots := #[.null, .int 2, .int 0, .null, .null, .null], vm := .none },
  { cls := 6, slots := #[.null, .int 3, .int 0, .null, .null, .null], vm := .none },
  { cls := 6, slots := #[.null, .int 4, .int 0, .null, .null, .null], vm := .none },
  { cls := 6, slots := #[.null, .int 5, .int 0, .null, .null, .null], vm := .none },
  { cls := 6, slots := #[.null, .int 6, .int 0, .null, .null, .null], vm := .none },
  { cls := 6, slots := #[.null, .int 7, .int 0, .null, .null, .null], vm := .none },
  { cls := 6, slots := #[.null, .int 8, .int 0, .null, .null, .null], vm := .none },
  { cls := 6, slots := #[.null, .int 9, .int 0, .null, .null, .null], vm := .none },
  { cls := 6, slots := #[.null, .int 10, .int 0, .null, .null, .null], vm := .none },
  { cls := 6, slots := #[.null, .int 11, .int 0, .null, .null, .null], vm := .none },
  { cls := 6, slots := #[.null, .int 12, .int 0, .null, .null, .null], vm := .none },
  { cls := 6, slots := #[.null, .int 13, .int 0, .null, .null, .null], vm := .none },
  { cls := 6, slots := #[.null, .int 14, .int 0, .null, .null, .null], vm := .none }]
def classes : Array Class := #[k0, k1, k2, k3, k4, k5, k6, k7, k8, k9, k10, k11, k12]
def interned : List (Array UInt16 × Addr) := []
def slotsUsed : Nat := 108
def theMethod : MethodId := ⟨1, 1⟩
def args0 : Array Value := #[.int 5]
def aboutOver (below : List Frame) : State where
  vm := { classes := classes, interned := interned.toArray }
  heap := heap
  slotsUsed := slotsUsed
  threads := #[{ frames := .invoking theMethod args0 :: below }]
def below0 : List Frame := [.native { method := ⟨0, 0⟩, args := #[] }]
def about1 : State := aboutOver below0
def p0 : Program := .bare "" "" ""
def e0 : Env := launch0.env 0 0 0
theorem w_frames : about1.frames = Frame.invoking theMethod args0 :: below0 := rfl
set_option maxRecDepth 65536 in
theorem w_args : argsFit about1.vm theMethod args0 = true := by decide +kernel
set_option maxRecDepth 65536 in
theorem w_heap : heapFits about1 = true := by decide +kernel
set_option maxRecDepth 65536 in
theorem w_runnable : about1.curStatus? = some .runnable := by decide +kernel
set_option maxRecDepth 65536 in
theorem w_alone : about1.alone = true := by decide +kernel
set_option maxRecDepth 65536 in
theorem w_named : about1.methodNamed? x = some theMethod := by decide +kernel
set_option maxRecDepth 65536 in
theorem w_hears : about1.hears theMethod below0 = true := by decide +kernel
set_option maxRecDepth 65536 in
theorem w_ripe : about1.ripe theMethod args0 below0 = true := by decide +kernel
theorem w_running : about1.status = .running := rfl
set_option maxRecDepth 65536 in
theorem w_room : about1.hasRoom e0.platform room_1 = true :=
  launch0.hasRoom_least _ room_1 (by decide +kernel) (by decide +kernel) (by decide +kernel) (by decide +kernel) (by decide +kernel) (by decide +kernel)
theorem allAtoms_all (ts : List Jvm.Cond) (a : Array Jvm.Value) (st : Jvm.State) : (allAtoms ts).before a st = ts.all (fun c => c.before a st) := by
  induction ts with
  | nil => rfl
  | cons c t ih =>
    show (Jvm.Cond.and c (allAtoms t)).before a st = _
    rw [Jvm.Cond.before_and, ih, List.all_cons]
def words1 : List Jvm.Cond := Jvm.Cond.code x code maxLocals ret :: tables_1
/-- a 'code' word, met by the world's own term for the bytes: nothing is compared byte by byte -/
theorem code_word {y : MethodName} {bytes : ByteArray} {mx : Nat} {rt : Option FieldType} {a : Array Value} {s : State} {m : MethodId} {meth : Method} {c : Code} (h1 : s.methodNamed? y = some m) (h2 : s.vm.method? m = some meth) (h3 : meth.code = some c) (h4 : c.code = bytes)
    (h5 : (c.maxLocals == mx && c.exceptionTable.isEmpty && decide (c.maxStack ≤ mostOperands) && decide (meth.sig.returnType = rt) && !meth.locks && decide (parseMethodDescriptor y.desc = some meth.sig)) = true) : (Jvm.Cond.code y bytes mx rt).before a s = true := by
  simp only [Bool.and_eq_true, beq_iff_eq, Bool.not_eq_true', decide_eq_true_eq] at h5
  obtain ⟨⟨⟨⟨⟨g1, g2⟩, g3⟩, g4⟩, g5⟩, g6⟩ := h5
  simp [Cond.before, Cond.holds, Cond.value, h1, h2, h3, h4, g1, g2, g3, g4, g5, g6]
def isCode : Jvm.Cond → Bool
  | .code _ _ _ _ => true
  | _ => false
theorem all_split {L : List Jvm.Cond} {P : Jvm.Cond → Bool} (h1 : L.all (fun c => isCode c || P c) = true) (h2 : ∀ c ∈ L.filter isCode, P c = true) : L.all P = true := by
  refine List.all_eq_true.mpr fun c hc => ?_
  have h := List.all_eq_true.mp h1 c hc
  rcases Bool.eq_false_or_eq_true (isCode c) with hi | hi
  · exact h2 c (List.mem_filter.mpr ⟨hc, hi⟩)
  · simpa [hi] using h
set_option maxRecDepth 65536 in
theorem w_c0 : (Jvm.Cond.code x code maxLocals ret).before args0 about1 = true := code_word (m := ⟨1, 1⟩) (meth := k1m1) (c := k1c1) (by decide +kernel) rfl rfl rfl (by decide +kernel)
set_option maxRecDepth 65536 in
theorem w_c1 : (Jvm.Cond.code ({ cls := "com/example/quern/quern/model/CimType", name := "isText", desc := "()Z" } : Jvm.MethodName) prog_44_method_9_code (1 : Nat) (Option.some Jvm.ClassFile.FieldType.boolean)).before args0 about1 = true := code_word (m := ⟨6, 0⟩) (meth := k6m0) (c := k6c0) (by decide +kernel) rfl rfl rfl (by decide +kernel)
def codes1 : List Jvm.Cond := [Jvm.Cond.code x code maxLocals ret, Jvm.Cond.code ({ cls := "com/example/quern/quern/model/CimType", name := "isText", desc := "()Z" } : Jvm.MethodName) prog_44_method_9_code (1 : Nat) (Option.some Jvm.ClassFile.FieldType.boolean)]
set_option maxRecDepth 65536 in
theorem codes_eq : words1.filter isCode = codes1 := rfl
theorem w_codes : ∀ c ∈ words1.filter isCode, c.before args0 about1 = true := by
  rw [codes_eq]
  intro c hc
  simp only [codes1, List.mem_cons, List.not_mem_nil, or_false] at hc
  rcases hc with rfl | rfl
  · exact w_c0
  · exact w_c1
set_option maxRecDepth 65536 in
theorem w_t1 : (words1.take 24).all (fun c => isCode c || c.before args0 about1) = true := by decide +kernel
set_option maxRecDepth 65536 in
theorem w_t2 : (words1.drop 24).all (fun c => isCode c || c.before args0 about1) = true := by decide +kernel
theorem w_tables : (allAtoms (Jvm.Cond.code x code maxLocals ret :: tables_1)).before args0 about1 = true := by
  rw [allAtoms_all]
  show words1.all (fun c => c.before args0 about1) = true
  refine all_split ?_ w_codes
  rw [← List.take_append_drop 24 words1, List.all_append, w_t1, w_t2]
  rfl
set_option maxRecDepth 65536 in
theorem w_case : (Jvm.Cond.and given_1 narrow_1).before args0 about1 = true := by decide +kernel
theorem w_applies : (headSpec (Jvm.Cond.code x code maxLocals ret :: tables_1) room_1).applies x e0.platform about1 = true :=
  (Spec.applies_iff w_frames).mpr ⟨w_running, w_runnable, w_alone, w_named, w_hears, w_ripe, w_room, w_tables⟩
theorem atStart : AtStart classFile x code maxLocals ret World_1 tables_1 room_1 Calls_1 rest_1 Pre_1 launch0 p0 e0 about1 theMethod args0 below0 :=
  ⟨lists_1, trivial, launch0.admits_env _ _ _, launch0.least_env, fairChoices_fair.cas, fairChoices_fair.clock, w_frames, w_args, w_heap, w_applies, trivial, trivial, w_case⟩
end start1
theorem witness_1 : WitnessClaimed_1 := ⟨start1.p0, start1.e0, start1.about1, start1.theMethod, start1.args0, start1.below0, start1.atStart⟩
end Jvm.Pilot.@@N@@
