import JvmDerived
import JvmDerived.Pilot.@@N@@Statement
import JvmDerived.Pilot.@@N@@Code
set_option linter.unusedVariables false
set_option linter.unusedSimpArgs false
@@BLOCK:NumsL.lean.txt@@
namespace Jvm.Pilot.@@N@@
open Jvm Jvm.ClassFile Sem Op Lib Jvm.Free Jvm.Stand Jvm.LawKit Jvm.RoadKit Bundle Jvm.Pilot.@@N@@.Jvm.D
section Own
variable {p : Program} {l : Launch} {e : Env} {R : Room} {s : State} {m : MethodId} {args : Array Value} {below : List Frame} {meth : Method} {c : Code} {T : State} {locs : List Loc} {cells slots : Nat} {Z : State} {a0 : Array Value} {h : Heap}
/-- from here the walk comes to an end that P holds of -/
def own_G (p : Program) (e : Env) (below : List Frame) (P : State → Outcome → Prop) (T : State) (g : JFrame) : Prop := ∃ t o, Steps p.tables e below (T.setTop g) t ∧ P t o
def own_P (below : List Frame) (s : State) (rm : Room) (Q : Option Value → Heap → List Loc → Prop) (t : State) (o : Outcome) : Prop := t.status = .running ∧ Ended t below o ∧ ∃ v L, o = .returned v ∧ Q v t.heap L ∧ FrameEnd s o t L rm.cells rm.slots
/-- a body's contract: over these arguments and this heap it returns, and Q holds of what it returns, the heap and the places written -/
def own_M (l : Launch) (Z : State) (y : MethodName) (code : ByteArray) (maxL : Nat) (ret : Option FieldType) (rm : Room) (as : Array Value) (h : Heap) (Q : Option Value → Heap → List Loc → Prop) : Prop :=
  ∀ ws : List Jvm.Cond, MetFree l y (head1 (Jvm.Cond.code y code maxL ret :: ws) rm) (fun a U => a = as ∧ Z.Warmed39 U.vm ∧ U.heap = h) (fun _ _ _ _ _ => True) (fun _ U o U' => ∃ v L, o = .returned v ∧ Q v U'.heap L ∧ FrameEnd U o U' L rm.cells rm.slots)
theorem own_go {P : State → Outcome → Prop} {T' : State} {g g' : JFrame} (st : ∀ t, Steps p.tables e below (T'.setTop g') t → Steps p.tables e below (T.setTop g) t) (k : own_G p e below P T' g') : own_G p e below P T g := by
  obtain ⟨t, o, h1, h2⟩ := k
  exact ⟨t, o, st t h1, h2⟩
theorem own_body {y : MethodName} {code : ByteArray} {maxL : Nat} {ret : Option FieldType} {rm : Room} {as : Array Value} {Q : Option Value → Heap → List Loc → Prop} (hn : plainName y.cls = true)
    (body : ∀ (p : Program) (e : Env) (s : State) (m : MethodId) (below : List Frame) (meth : Method) (c : Code) (T : State), p.tables.exec = Jvm.exec → c.code = code → c.maxLocals = maxL → meth.locks = false → s.vm.findClass y.cls = some m.cls → meth.sig.returnType = ret → meth.name = y.name → Z.Warmed39 s.vm → Stand p l e rm s m as below meth c T [] 0 0 → T.heap = h → own_G p e below (own_P below s rm Q) T (entryFrame m as maxL)) :
    own_M l Z y code maxL ret rm as h Q := by
  intro ws
  refine MetFree.of_bodySF (plainFor_of_name hn) hisR ?_
  intro p e s m args below meth c s₁ Bd hml0 hP hK
  obtain ⟨rfl, hZ, hh⟩ := hP
  obtain ⟨t, o, h1, h2, h3, h4⟩ := body p e s m below meth c s₁ Bd.exec Bd.bytes hml0 Bd.notSynchronized (findClass_of_methodNamed Bd.named) Bd.returns (name_of_methodNamed Bd.named Bd.method).1 hZ (Stand.of_body Bd) (by rw [← hh, Bd.state]; rfl)
  exact ⟨t, o, h1, h2, h3, h4⟩
theorem own_retI {rm : Room} {Q : Option Value → Heap → List Loc → Prop} (X : Stand p l e R s m args below meth c T locs cells slots) (hx : p.tables.exec = Jvm.exec) (hlk : meth.locks = false) (hret : meth.sig.returnType = some .int) {pc : Nat} {Ls : Array Slot} {z : Int32} {rest : List Value} (hd : decode c.code pc = .ok (.ireturn, 1)) (hc : cells ≤ rm.cells) (hs : slots ≤ rm.slots) (hQ : Q (some (.int z)) T.heap locs) :
    own_G p e below (own_P below s rm Q) T (mkF m pc Ls (.int z :: rest)) := by
  obtain ⟨fs, hr, hrun, hended, hW, hsame⟩ := X.leave (v := some (.int z)) (fun h => by rw [hret] at h; cases h) hlk
  exact ⟨_, _, retOut X hx hret rfl (Or.inl ⟨rfl, Or.inl rfl, _, rfl⟩) hd hr, hrun, hended, _, _, rfl, hQ, ⟨_, rfl⟩, hW, hsame.mono hc hs⟩
theorem own_retN {rm : Room} {Q : Option Value → Heap → List Loc → Prop} (X : Stand p l e R s m args below meth c T locs cells slots) (hx : p.tables.exec = Jvm.exec) (hlk : meth.locks = false) {t : FieldType} (hret : meth.sig.returnType = some t) (ht : t = .boolean ∨ t = .byte ∨ t = .char ∨ t = .short) {pc : Nat} {Ls : Array Slot} {z : Int32} {rest : List Value} (hd : decode c.code pc = .ok (.ireturn, 1)) (hc : cells ≤ rm.cells) (hs : slots ≤ rm.slots) (hQ : Q (some (.int (nar t z))) T.heap locs) :
    own_G p e below (own_P below s rm Q) T (mkF m pc Ls (.int z :: rest)) := by
  obtain ⟨fs, hr, hrun, hended, hW, hsame⟩ := X.leave (v := some (.int (nar t z))) (fun h => by rw [hret] at h; cases h) hlk
  exact ⟨_, _, retN X hx hret ht hd hr, hrun, hended, _, _, rfl, hQ, ⟨_, rfl⟩, hW, hsame.mono hc hs⟩
theorem own_narrow {t : FieldType} {w : Value} (hw : w.isRef = true) : narrow t w = w := by
  rcases ref_cases hw with rfl | ⟨a, rfl⟩ <;> cases t <;> rfl
theorem own_retA {rm : Room} {Q : Option Value → Heap → List Loc → Prop} (X : Stand p l e R s m args below meth c T locs cells slots) (hx : p.tables.exec = Jvm.exec) (hlk : meth.locks = false) {t : FieldType} (hret : meth.sig.returnType = some t) (ht : t.isReference = true) {pc : Nat} {Ls : Array Slot} {w : Value} {rest : List Value} (hw : w.isRef = true) (hd : decode c.code pc = .ok (.areturn, 1)) (hc : cells ≤ rm.cells) (hs : slots ≤ rm.slots) (hQ : Q (some w) T.heap locs) :
    own_G p e below (own_P below s rm Q) T (mkF m pc Ls (w :: rest)) := by
  obtain ⟨fs, hr, hrun, hended, hW, hsame⟩ := X.leave (v := some w) (fun h => by rw [hret] at h; cases h) hlk
  exact ⟨_, _, retOut X hx hret (own_narrow hw) (Or.inr (Or.inr (Or.inr (Or.inr ⟨rfl, ht, hw⟩)))) hd hr, hrun, hended, _, _, rfl, hQ, ⟨_, rfl⟩, hW, hsame.mono hc hs⟩
theorem own_ret0 {rm : Room} {Q : Option Value → Heap → List Loc → Prop} (X : Stand p l e R s m args below meth c T locs cells slots) (hx : p.tables.exec = Jvm.exec) (hlk : meth.locks = false) (hret : meth.sig.returnType = none) {pc : Nat} {Ls : Array Slot} (hd : decode c.code pc = .ok (.return_, 1)) (hc : cells ≤ rm.cells) (hs : slots ≤ rm.slots) (hQ : Q none T.heap locs) :
    own_G p e below (own_P below s rm Q) T (mkF m pc Ls []) := by
  obtain ⟨fs, hr, hrun, hended, hW, hsame⟩ := X.leave (v := none) (fun _ => rfl) hlk
  exact ⟨_, _, X.returnOut hx hret hd hr, hrun, hended, _, _, rfl, hQ, ⟨_, rfl⟩, hW, hsame.mono hc hs⟩
theorem own_callS (X : Stand p l e R s m args below meth c T locs cells slots) (hx : p.tables.exec = Jvm.exec) (hZ : Z.Warmed39 s.vm) {own : String} {index : Nat} {y : MethodName} {bytes : ByteArray} {maxL : Nat} {ret : Option FieldType} (hown : s.vm.findClass own = some m.cls)
    (w1 : (Jvm.Cond.methodLink own index y).before a0 Z = true) (w2 : (Jvm.Cond.static y).before a0 Z = true) (w3 : (Jvm.Cond.initialized y.cls).before a0 Z = true) (w4 : (Jvm.Cond.code y bytes maxL ret).before a0 Z = true) (hy : y.cls ≠ "java/lang/invoke/MethodHandle" ∧ y.cls ≠ "java/lang/invoke/VarHandle")
    {rm : Room} {argsL rest : List Value} {Q : Option Value → Heap → List Loc → Prop} (hM : own_M l Z y bytes maxL ret rm argsL.toArray h Q) (eT : T.heap = h) {g : JFrame} (hg : g.method = m) (hsize : g.locals.size = c.maxLocals) {ps : List FieldType} {r : Option FieldType} (hpd : parseMethodDescriptor y.desc = some ⟨ps, r⟩) (hpl : argsL.length = ps.length)
    (hstack : g.stack = argsL.reverse ++ rest) {W : Nat} (hW : 2 * g.monitorRoom + (rest.map fun v => v.category).sum ≤ W) (hdg : decode c.code g.pc = .ok (.invokestatic index, 3)) (hf : rm.frames + 1 ≤ R.frames) (hl : W + (maxL + 11) + rm.locals ≤ R.locals) (hc : cells + rm.cells ≤ R.cells) (hs : slots + rm.slots ≤ R.slots) :
    ∃ (T' : State) (L : List Loc) (v : Option Value), Stand p l e R s m args below meth c T' (locs ++ L) (cells + rm.cells) (slots + rm.slots) ∧ Q v T'.heap L ∧ ∀ t, Steps p.tables e below (T'.setTop { g with pc := g.pc + 3, stack := v.toList ++ rest }) t → Steps p.tables e below (T.setTop g) t := by
  obtain ⟨v, vm₁, ⟨T', L', k', n'⟩, -, X', ⟨L, hQ, e1, e2, e3⟩, st⟩ := Jvm.LawKit.callS X hx (y := y) hown (mvT hZ w1) (mvT hZ w2) (mvT hZ w3) (mvT hZ w4) hy (backOf (W := W) (hM []) hZ w4 w3 hf hl) hg hsize (argsL := argsL) (rest := rest) (lenOf hpd hpl) hstack hW hdg (fun _ _ => ⟨rfl, eT, hc, hs⟩)
  dsimp only [Pt.U, Pt.locs, Pt.cells, Pt.slots] at X' e1 e2 e3 st hQ
  subst e1 e2 e3
  exact ⟨T', L, v, X', hQ, st⟩
theorem own_callV (X : Stand p l e R s m args below meth c T locs cells slots) (hx : p.tables.exec = Jvm.exec) (hZ : Z.Warmed39 s.vm) {own C : String} {index : Nat} {y z : MethodName} {bytes : ByteArray} {maxL : Nat} {ret : Option FieldType} (hown : s.vm.findClass own = some m.cls)
    (w1 : (Jvm.Cond.methodLink own index y).before a0 Z = true) (w2 : (Jvm.Cond.declares y).before a0 Z = true) (w3 : (Jvm.Cond.selects y.cls y z).before a0 Z = true) (w3' : (Jvm.Cond.selects C y z).before a0 Z = true) (w4 : (Jvm.Cond.instanceMethod z).before a0 Z = true) (w5 : (Jvm.Cond.code z bytes maxL ret).before a0 Z = true) (w6 : (Jvm.Cond.initialized z.cls).before a0 Z = true) (hnf : NotFace s y)
    (hy : y.cls ≠ "java/lang/invoke/MethodHandle" ∧ y.cls ≠ "java/lang/invoke/VarHandle")
    {rm : Room} {a : Addr} {argsL rest : List Value} {Q : Option Value → Heap → List Loc → Prop} (hM : own_M l Z z bytes maxL ret rm (.ref a :: argsL).toArray h Q) (eT : T.heap = h) (E : Exa Z h a C) {g : JFrame} (hg : g.method = m) (hsize : g.locals.size = c.maxLocals) {ps : List FieldType} {r : Option FieldType} (hpd : parseMethodDescriptor y.desc = some ⟨ps, r⟩) (hpl : argsL.length = ps.length)
    (hstack : g.stack = argsL.reverse ++ .ref a :: rest) {W : Nat} (hW : 2 * g.monitorRoom + (rest.map fun v => v.category).sum ≤ W) (hdg : decode c.code g.pc = .ok (.invokevirtual index, 3)) (hf : rm.frames + 1 ≤ R.frames) (hl : W + (maxL + 11) + rm.locals ≤ R.locals) (hc : cells + rm.cells ≤ R.cells) (hs : slots + rm.slots ≤ R.slots) :
    ∃ (T' : State) (L : List Loc) (v : Option Value), Stand p l e R s m args below meth c T' (locs ++ L) (cells + rm.cells) (slots + rm.slots) ∧ Q v T'.heap L ∧ ∀ t, Steps p.tables e below (T'.setTop { g with pc := g.pc + 3, stack := v.toList ++ rest }) t → Steps p.tables e below (T.setTop g) t := by
  obtain ⟨cq, kq, qa, qb, qc⟩ := isOf hZ eT E
  obtain ⟨v, vm₁, ⟨T', L', k', n'⟩, -, X', ⟨L, hQ, e1, e2, e3⟩, st⟩ := X.virtualBack hx (y := y) (z := z) hown (mvT hZ w1) (mvT hZ w2) hnf (mvT hZ w3') (mvT hZ w4) hy (backOf (W := W) (hM []) hZ w5 w6 hf hl) qa qc hg hsize (Steps.refl _) (argsL := argsL) (rest := rest) (lenOf hpd hpl) hstack hW hdg (fun _ _ => ⟨rfl, eT, hc, hs⟩)
  dsimp only [Pt.U, Pt.locs, Pt.cells, Pt.slots] at X' e1 e2 e3 st hQ
  subst e1 e2 e3
  exact ⟨T', L, v, X', hQ, fun t k => st.trans k⟩
theorem own_callU (X : Stand p l e R s m args below meth c T locs cells slots) (hx : p.tables.exec = Jvm.exec) (hZ : Z.Warmed39 s.vm) {own C owner : String} {index : Nat} {y z : MethodName} {bytes : ByteArray} {maxL : Nat} {ret : Option FieldType} (hown : s.vm.findClass own = some m.cls)
    (w1 : (Jvm.Cond.methodLink own index y).before a0 Z = true) (w2 : (Jvm.Cond.sameMethod y.cls owner y.name y.desc).before a0 Z = true) (w2' : (Jvm.Cond.declares ⟨owner, y.name, y.desc⟩).before a0 Z = true) (w3 : (Jvm.Cond.selects C y z).before a0 Z = true) (w4 : (Jvm.Cond.instanceMethod z).before a0 Z = true) (w5 : (Jvm.Cond.code z bytes maxL ret).before a0 Z = true) (w6 : (Jvm.Cond.initialized z.cls).before a0 Z = true)
    (hy : owner ≠ "java/lang/invoke/MethodHandle" ∧ owner ≠ "java/lang/invoke/VarHandle")
    {rm : Room} {a : Addr} {argsL rest : List Value} {Q : Option Value → Heap → List Loc → Prop} (hM : own_M l Z z bytes maxL ret rm (.ref a :: argsL).toArray h Q) (eT : T.heap = h) (E : Exa Z h a C) {g : JFrame} (hg : g.method = m) (hsize : g.locals.size = c.maxLocals) {ps : List FieldType} {r : Option FieldType} (hpd : parseMethodDescriptor y.desc = some ⟨ps, r⟩) (hpl : argsL.length = ps.length)
    (hstack : g.stack = argsL.reverse ++ .ref a :: rest) {W : Nat} (hW : 2 * g.monitorRoom + (rest.map fun v => v.category).sum ≤ W) (hdg : decode c.code g.pc = .ok (.invokevirtual index, 3)) (hf : rm.frames + 1 ≤ R.frames) (hl : W + (maxL + 11) + rm.locals ≤ R.locals) (hc : cells + rm.cells ≤ R.cells) (hs : slots + rm.slots ≤ R.slots) :
    ∃ (T' : State) (L : List Loc) (v : Option Value), Stand p l e R s m args below meth c T' (locs ++ L) (cells + rm.cells) (slots + rm.slots) ∧ Q v T'.heap L ∧ ∀ t, Steps p.tables e below (T'.setTop { g with pc := g.pc + 3, stack := v.toList ++ rest }) t → Steps p.tables e below (T.setTop g) t := by
  obtain ⟨cq, kq, qa, qb, qc⟩ := isOf hZ eT E
  obtain ⟨v, vm₁, ⟨T', L', k', n'⟩, -, X', ⟨L, hQ, e1, e2, e3⟩, st⟩ := X.virtualBackUp hx (x := y) (y := z) hown (mvT hZ w1) (mvT hZ w2) (mvT hZ w2') hy (mvT hZ w3) (mvT hZ w4) (backOf (W := W) (hM []) hZ w5 w6 hf hl) qa qc hg hsize (Steps.refl _) (argsL := argsL) (rest := rest) (lenOf hpd hpl) hstack hW hdg (fun _ _ => ⟨rfl, eT, hc, hs⟩)
  dsimp only [Pt.U, Pt.locs, Pt.cells, Pt.slots] at X' e1 e2 e3 st hQ
  subst e1 e2 e3
  exact ⟨T', L, v, X', hQ, fun t k => st.trans k⟩
theorem own_neL {i K : Int32} {k : Int} (h : ¬ i = K) (hk : K.toInt = k) : k ≠ i.toInt := fun q => h (Int32.toInt_inj.mp (by rw [hk, q]))
abbrev own_cell (cA : ClassId) (vs : Array Value) : Cell := { cls := cA, slots := vs, vm := .none }
theorem own_in {cl : Cell} {j : Int32} {n : Nat} (hs : cl.slots.size = n) (hj : ¬ (j < 0 ∨ n ≤ j.toNatClampNeg)) : ¬ (j < 0 ∨ cl.slots.size ≤ j.toNatClampNeg) := by rw [hs]; exact hj
theorem own_ext_refl (h : Heap) : Ext h h := ⟨Nat.le_refl _, fun _ _ q => q⟩
theorem own_ext_trans {h0 h h' : Heap} (E : Ext h0 h) (E' : Ext h h') : Ext h0 h' := ⟨Nat.le_trans E.1 E'.1, fun a c q => E'.2 a c (E.2 a c q)⟩
theorem own_ext_eq {h0 h h' : Heap} (E : Ext h0 h) (q : h' = h) : Ext h0 h' := q ▸ E
theorem own_acVF {v w : Value} (q : v = w) : Jvm.Free.XT.acmp .ne v w = false := by subst q; simp [Jvm.Free.XT.acmp]
theorem own_ext_wr {h0 h h' : Heap} {a : Addr} {sl : Nat} {v : Value} (E : Ext h0 h) (W : Wr h h' a sl v) (q : h0.size ≤ a) : Ext h0 h' := by
  refine ⟨by rw [W.size]; exact E.1, fun x cx hx => ?_⟩
  obtain ⟨c', e1, -, -, -, e5, -⟩ := wr_at W (E.2 x cx hx)
  rw [← e5 (Nat.ne_of_lt (Nat.lt_of_lt_of_le (Array.getElem?_eq_some_iff.mp hx).1 q))]
  exact e1
theorem own_fld {t : Term} {a : Addr} {C n d : String} {k : Int32} (ev : t.eval args Z none [] Z = some (.ref a)) (w : (Jvm.Cond.eq (.field t C n d) (.int k)).value args Z none Z [] = some true) : Fld Z Z.heap a C n d (.int k) := by
  obtain ⟨x, y, e1, e2, k1, k2⟩ := cmp_v (Or.inl w)
  obtain rfl : y = .int k := (Option.some.inj e2).symm
  obtain ⟨z, rfl⟩ := k2
  have hz := gotT (Jvm.Cond.eq_ints e1 e2) w
  rw [fld_at ev] at e1
  rw [hz] at e1
  exact Fld.start e1
theorem own_len {t : Term} {a : Addr} {cl : Cell} {ty : FieldType} {k : Int32} (ev : t.eval args Z none [] Z = some (.ref a)) (A : Arr Z Z.heap a cl ty) (w : (Jvm.Cond.eq (.length t) (.int k)).value args Z none Z [] = some true) : cl.slots.size = k.toInt.toNat := by
  obtain ⟨x, y, e1, e2, k1, k2⟩ := cmp_v (Or.inl w)
  obtain rfl : y = .int k := (Option.some.inj e2).symm
  obtain ⟨z, rfl⟩ := k2
  have hz := gotT (Jvm.Cond.eq_ints e1 e2) w
  have hA : Z.arrayAt? a = some cl := Arr.fin (Vm.Alike.refl _) A
  by_cases hl : cl.slots.size < 2 ^ 31
  · rw [len_f ev hA hl] at e1
    have h1 : cl.slots.size.toInt32 = z := Value.int.inj (Option.some.inj e1)
    rw [← hz, ← h1, len_toInt hl]
    rfl
  · simp [Term.eval, ev, hA, hl] at e1
theorem own_elemI {t : Term} {a : Addr} {cl : Cell} {ty : FieldType} {j k : Int32} (ev : t.eval args Z none [] Z = some (.ref a)) (A : Arr Z Z.heap a cl ty) (w : (Jvm.Cond.eq (.elem t (.int j)) (.int k)).value args Z none Z [] = some true) : cl.slots[j.toNatClampNeg]? = some (.int k) := by
  obtain ⟨x, y, e1, e2, k1, k2⟩ := cmp_v (Or.inl w)
  obtain rfl : y = .int k := (Option.some.inj e2).symm
  obtain ⟨z, rfl⟩ := k2
  have hz := gotT (Jvm.Cond.eq_ints e1 e2) w
  rw [← hz]
  exact (elem_in e1 ev (Term.int_eval j) A.1).2
theorem own_elemR {t u : Term} {a b : Addr} {cl : Cell} {ty : FieldType} {j : Int32} (ev : t.eval args Z none [] Z = some (.ref a)) (A : Arr Z Z.heap a cl ty) (ev' : u.eval args Z none [] Z = some (.ref b)) (w : (Jvm.Cond.eq (.elem t (.int j)) u).value args Z none Z [] = some true) : cl.slots[j.toNatClampNeg]? = some (.ref b) := by
  obtain ⟨x, y, e1, e2, k1, k2⟩ := cmp_v (Or.inl w)
  obtain rfl : y = .ref b := (Option.some.inj (ev'.symm.trans e2)).symm
  have hz := gotT (eq_R e1 e2 k2.2 rfl) w
  rw [← hz]
  exact (elem_in e1 ev (Term.int_eval j) A.1).2
theorem own_neV {a b : Int32} (h : a ≠ b) : (Value.int a) ≠ Value.int b := fun q => h (Value.int.inj q)
theorem own_acT {a b : Addr} (h : a = b) : Jvm.Free.XT.acmp .eq (.ref a) (.ref b) = true := by subst h; simp [Jvm.Free.XT.acmp]
theorem own_acF {a b : Addr} (h : a ≠ b) : Jvm.Free.XT.acmp .eq (.ref a) (.ref b) = false := by simp [Jvm.Free.XT.acmp, h]
theorem own_acnT {a b : Addr} (h : a ≠ b) : Jvm.Free.XT.acmp .ne (.ref a) (.ref b) = true := by simp [Jvm.Free.XT.acmp, h]
theorem own_acnF {a b : Addr} (h : a = b) : Jvm.Free.XT.acmp .ne (.ref a) (.ref b) = false := by subst h; simp [Jvm.Free.XT.acmp]
theorem own_mask (x : Int32) : 0 ≤ (x &&& 2147483647).toInt := by
  have := Jvm.Kit.i32_mask x 2147483647 (k := 31) (by decide) (by decide)
  omega
theorem own_rem (y n : Int32) (h0 : 0 ≤ y.toInt) (hn : 0 < n.toInt) : 0 ≤ (y % n).toInt ∧ (y % n).toInt < n.toInt := by
  rw [Int32.toInt_mod]
  exact ⟨Int.tmod_nonneg _ h0, by
    have := Int.tmod_lt_of_pos y.toInt hn
    exact this⟩
end Own
end Jvm.Pilot.@@N@@
namespace Jvm.Pilot.@@N@@
open Jvm Jvm.ClassFile Sem Op Lib Jvm.Free Jvm.Stand Jvm.LawKit Jvm.RoadKit Bundle Jvm.Pilot.@@N@@.Jvm.D
def own_B (Z : State) (h : Heap) (a_UP a_DOWN a_ENTER a_ESCAPE a_CANCEL a_TERMINATE a_YES a_QUIT a_PREVIOUS a_NEXT a_FIRST a_LAST a_MOST_WAITING a_OTHER : Addr) : Prop := Sta Z h "com/example/locktop/locktop/view/Key" "UP" "Lcom/example/locktop/locktop/view/Key;" (.ref a_UP) ∧ Exa Z h a_UP "com/example/locktop/locktop/view/Key" ∧ Sta Z h "com/example/locktop/locktop/view/Key" "DOWN" "Lcom/example/locktop/locktop/view/Key;" (.ref a_DOWN) ∧ Exa Z h a_DOWN "com/example/locktop/locktop/view/Key" ∧ Sta Z h "com/example/locktop/locktop/view/Key" "ENTER" "Lcom/example/locktop/locktop/view/Key;" (.ref a_ENTER) ∧ Exa Z h a_ENTER "com/example/locktop/locktop/view/Key" ∧ Sta Z h "com/example/locktop/locktop/view/Key" "ESCAPE" "Lcom/example/locktop/locktop/view/Key;" (.ref a_ESCAPE) ∧ Exa Z h a_ESCAPE "com/example/locktop/locktop/view/Key" ∧ Sta Z h "com/example/locktop/locktop/view/Key" "CANCEL" "Lcom/example/locktop/locktop/view/Key;" (.ref a_CANCEL) ∧ Exa Z h a_CANCEL "com/example/locktop/locktop/view/Key" ∧ Sta Z h "com/example/locktop/locktop/view/Key" "TERMINATE" "Lcom/example/locktop/locktop/view/Key;" (.ref a_TERMINATE) ∧ Exa Z h a_TERMINATE "com/example/locktop/locktop/view/Key" ∧ Sta Z h "com/example/locktop/locktop/view/Key" "YES" "Lcom/example/locktop/locktop/view/Key;" (.ref a_YES) ∧ Exa Z h a_YES "com/example/locktop/locktop/view/Key" ∧ Sta Z h "com/example/locktop/locktop/view/Key" "QUIT" "Lcom/example/locktop/locktop/view/Key;" (.ref a_QUIT) ∧ Exa Z h a_QUIT "com/example/locktop/locktop/view/Key" ∧ Sta Z h "com/example/locktop/locktop/view/Key" "PREVIOUS" "Lcom/example/locktop/locktop/view/Key;" (.ref a_PREVIOUS) ∧ Exa Z h a_PREVIOUS "com/example/locktop/locktop/view/Key" ∧ Sta Z h "com/example/locktop/locktop/view/Key" "NEXT" "Lcom/example/locktop/locktop/view/Key;" (.ref a_NEXT) ∧ Exa Z h a_NEXT "com/example/locktop/locktop/view/Key" ∧ Sta Z h "com/example/locktop/locktop/view/Key" "FIRST" "Lcom/example/locktop/locktop/view/Key;" (.ref a_FIRST) ∧ Exa Z h a_FIRST "com/example/locktop/locktop/view/Key" ∧ Sta Z h "com/example/locktop/locktop/view/Key" "LAST" "Lcom/example/locktop/locktop/view/Key;" (.ref a_LAST) ∧ Exa Z h a_LAST "com/example/locktop/locktop/view/Key" ∧ Sta Z h "com/example/locktop/locktop/view/Key" "MOST_WAITING" "Lcom/example/locktop/locktop/view/Key;" (.ref a_MOST_WAITING) ∧ Exa Z h a_MOST_WAITING "com/example/locktop/locktop/view/Key" ∧ Sta Z h "com/example/locktop/locktop/view/Key" "OTHER" "Lcom/example/locktop/locktop/view/Key;" (.ref a_OTHER) ∧ Exa Z h a_OTHER "com/example/locktop/locktop/view/Key" ∧ Fld Z h a_UP "java/lang/Enum" "ordinal" "I" (.int (0 : Int32)) ∧ Fld Z h a_PREVIOUS "java/lang/Enum" "ordinal" "I" (.int (8 : Int32)) ∧ Fld Z h a_NEXT "java/lang/Enum" "ordinal" "I" (.int (9 : Int32)) ∧ Fld Z h a_FIRST "java/lang/Enum" "ordinal" "I" (.int (10 : Int32)) ∧ Fld Z h a_LAST "java/lang/Enum" "ordinal" "I" (.int (11 : Int32)) ∧ Fld Z h a_MOST_WAITING "java/lang/Enum" "ordinal" "I" (.int (12 : Int32)) ∧ Fld Z h a_ESCAPE "java/lang/Enum" "ordinal" "I" (.int (3 : Int32)) ∧ Fld Z h a_OTHER "java/lang/Enum" "ordinal" "I" (.int (13 : Int32)) ∧ Fld Z h a_CANCEL "java/lang/Enum" "ordinal" "I" (.int (4 : Int32)) ∧ Fld Z h a_QUIT "java/lang/Enum" "ordinal" "I" (.int (7 : Int32)) ∧ Fld Z h a_ENTER "java/lang/Enum" "ordinal" "I" (.int (2 : Int32)) ∧ Fld Z h a_DOWN "java/lang/Enum" "ordinal" "I" (.int (1 : Int32)) ∧ Fld Z h a_TERMINATE "java/lang/Enum" "ordinal" "I" (.int (5 : Int32)) ∧ Fld Z h a_YES "java/lang/Enum" "ordinal" "I" (.int (6 : Int32))
theorem own_B_ext {Z : State} {h h' : Heap} {a_UP a_DOWN a_ENTER a_ESCAPE a_CANCEL a_TERMINATE a_YES a_QUIT a_PREVIOUS a_NEXT a_FIRST a_LAST a_MOST_WAITING a_OTHER : Addr} (E : Ext h h') (B : own_B Z h a_UP a_DOWN a_ENTER a_ESCAPE a_CANCEL a_TERMINATE a_YES a_QUIT a_PREVIOUS a_NEXT a_FIRST a_LAST a_MOST_WAITING a_OTHER) : own_B Z h' a_UP a_DOWN a_ENTER a_ESCAPE a_CANCEL a_TERMINATE a_YES a_QUIT a_PREVIOUS a_NEXT a_FIRST a_LAST a_MOST_WAITING a_OTHER := by
  obtain ⟨S_UP, E_UP, S_DOWN, E_DOWN, S_ENTER, E_ENTER, S_ESCAPE, E_ESCAPE, S_CANCEL, E_CANCEL, S_TERMINATE, E_TERMINATE, S_YES, E_YES, S_QUIT, E_QUIT, S_PREVIOUS, E_PREVIOUS, S_NEXT, E_NEXT, S_FIRST, E_FIRST, S_LAST, E_LAST, S_MOST_WAITING, E_MOST_WAITING, S_OTHER, E_OTHER, F_UP_ordinal, F_PREVIOUS_ordinal, F_NEXT_ordinal, F_FIRST_ordinal, F_LAST_ordinal, F_MOST_WAITING_ordinal, F_ESCAPE_ordinal, F_OTHER_ordinal, F_CANCEL_ordinal, F_QUIT_ordinal, F_ENTER_ordinal, F_DOWN_ordinal, F_TERMINATE_ordinal, F_YES_ordinal⟩ := B
  exact ⟨S_UP.ext E, E_UP.ext E, S_DOWN.ext E, E_DOWN.ext E, S_ENTER.ext E, E_ENTER.ext E, S_ESCAPE.ext E, E_ESCAPE.ext E, S_CANCEL.ext E, E_CANCEL.ext E, S_TERMINATE.ext E, E_TERMINATE.ext E, S_YES.ext E, E_YES.ext E, S_QUIT.ext E, E_QUIT.ext E, S_PREVIOUS.ext E, E_PREVIOUS.ext E, S_NEXT.ext E, E_NEXT.ext E, S_FIRST.ext E, E_FIRST.ext E, S_LAST.ext E, E_LAST.ext E, S_MOST_WAITING.ext E, E_MOST_WAITING.ext E, S_OTHER.ext E, E_OTHER.ext E, F_UP_ordinal.ext E, F_PREVIOUS_ordinal.ext E, F_NEXT_ordinal.ext E, F_FIRST_ordinal.ext E, F_LAST_ordinal.ext E, F_MOST_WAITING_ordinal.ext E, F_ESCAPE_ordinal.ext E, F_OTHER_ordinal.ext E, F_CANCEL_ordinal.ext E, F_QUIT_ordinal.ext E, F_ENTER_ordinal.ext E, F_DOWN_ordinal.ext E, F_TERMINATE_ordinal.ext E, F_YES_ordinal.ext E⟩
theorem own_l14 (z : Int32) (h0 : 0 ≤ z.toInt) (h1 : z.toInt ≤ 13) : z = (0 : Int32) ∨ z = (1 : Int32) ∨ z = (2 : Int32) ∨ z = (3 : Int32) ∨ z = (4 : Int32) ∨ z = (5 : Int32) ∨ z = (6 : Int32) ∨ z = (7 : Int32) ∨ z = (8 : Int32) ∨ z = (9 : Int32) ∨ z = (10 : Int32) ∨ z = (11 : Int32) ∨ z = (12 : Int32) ∨ z = (13 : Int32) := by
  simp only [← Int32.toInt_inj]
  change z.toInt = 0 ∨ z.toInt = 1 ∨ z.toInt = 2 ∨ z.toInt = 3 ∨ z.toInt = 4 ∨ z.toInt = 5 ∨ z.toInt = 6 ∨ z.toInt = 7 ∨ z.toInt = 8 ∨ z.toInt = 9 ∨ z.toInt = 10 ∨ z.toInt = 11 ∨ z.toInt = 12 ∨ z.toInt = 13
  omega
def own_steps (a_UP a_DOWN a_ENTER a_ESCAPE a_CANCEL a_TERMINATE a_YES a_QUIT a_PREVIOUS a_NEXT a_FIRST a_LAST a_MOST_WAITING a_OTHER : Addr) (a1 : Addr) : Int32 := (if a1 = a_PREVIOUS then (nar .boolean (1 : Int32)) else (if a1 = a_NEXT then (nar .boolean (1 : Int32)) else (if a1 = a_FIRST then (nar .boolean (1 : Int32)) else (if a1 = a_LAST then (nar .boolean (1 : Int32)) else (if a1 = a_MOST_WAITING then (nar .boolean (1 : Int32)) else (nar .boolean (0 : Int32)))))))
theorem d1_0 : decode prog_81_method_5_code 0 = .ok (.aload_n 0, 1) := by decide +kernel
theorem d1_1 : decode prog_81_method_5_code 1 = .ok (.getstatic 28, 3) := by decide +kernel
theorem d1_4 : decode prog_81_method_5_code 4 = .ok (.if_acmp .eq 31, 3) := by decide +kernel
theorem d1_7 : decode prog_81_method_5_code 7 = .ok (.aload_n 0, 1) := by decide +kernel
theorem d1_8 : decode prog_81_method_5_code 8 = .ok (.getstatic 31, 3) := by decide +kernel
theorem d1_11 : decode prog_81_method_5_code 11 = .ok (.if_acmp .eq 24, 3) := by decide +kernel
theorem d1_14 : decode prog_81_method_5_code 14 = .ok (.aload_n 0, 1) := by decide +kernel
theorem d1_15 : decode prog_81_method_5_code 15 = .ok (.getstatic 34, 3) := by decide +kernel
theorem d1_18 : decode prog_81_method_5_code 18 = .ok (.if_acmp .eq 17, 3) := by decide +kernel
theorem d1_21 : decode prog_81_method_5_code 21 = .ok (.aload_n 0, 1) := by decide +kernel
theorem d1_22 : decode prog_81_method_5_code 22 = .ok (.getstatic 37, 3) := by decide +kernel
theorem d1_25 : decode prog_81_method_5_code 25 = .ok (.if_acmp .eq 10, 3) := by decide +kernel
theorem d1_28 : decode prog_81_method_5_code 28 = .ok (.aload_n 0, 1) := by decide +kernel
theorem d1_29 : decode prog_81_method_5_code 29 = .ok (.getstatic 40, 3) := by decide +kernel
theorem d1_32 : decode prog_81_method_5_code 32 = .ok (.if_acmp .ne 7, 3) := by decide +kernel
theorem d1_35 : decode prog_81_method_5_code 35 = .ok (.iconst 1, 1) := by decide +kernel
theorem d1_36 : decode prog_81_method_5_code 36 = .ok (.goto 4, 3) := by decide +kernel
theorem d1_39 : decode prog_81_method_5_code 39 = .ok (.iconst 0, 1) := by decide +kernel
theorem d1_40 : decode prog_81_method_5_code 40 = .ok (.ireturn, 1) := by decide +kernel
theorem pn_1 : plainName "com/example/locktop/locktop/view/Key" = true := by first | (simp [plainName, overriddenIn]; done) | decide +kernel
set_option maxRecDepth 65536 in
set_option maxHeartbeats 40000000 in
theorem c_steps (l : Launch) (Z : State) (a0 : Array Value) (hw : ∀ d ∈ tables_1, d.before a0 Z = true) (a_UP a_DOWN a_ENTER a_ESCAPE a_CANCEL a_TERMINATE a_YES a_QUIT a_PREVIOUS a_NEXT a_FIRST a_LAST a_MOST_WAITING a_OTHER : Addr) (a1 : Addr) (h0 : Heap) (B : own_B Z h0 a_UP a_DOWN a_ENTER a_ESCAPE a_CANCEL a_TERMINATE a_YES a_QUIT a_PREVIOUS a_NEXT a_FIRST a_LAST a_MOST_WAITING a_OTHER) :
    own_M l Z (⟨"com/example/locktop/locktop/view/Key", "steps", "()Z"⟩ : MethodName) prog_81_method_5_code 1 (some .boolean) ⟨0, 0, 0, 0⟩ #[.ref a1] h0 (fun v h L => v = some (.int (own_steps a_UP a_DOWN a_ENTER a_ESCAPE a_CANCEL a_TERMINATE a_YES a_QUIT a_PREVIOUS a_NEXT a_FIRST a_LAST a_MOST_WAITING a_OTHER a1)) ∧ L = [] ∧ h = h0) := by
  refine own_body pn_1 ?_
  intro p e s m below meth c T0 hx hby hml hlk hown hret hnm hZ X0 e0
  replace hown : s.vm.findClass "com/example/locktop/locktop/view/Key" = some m.cls := hown
  replace hml : c.maxLocals = 1 := hml
  obtain ⟨S_UP, E_UP, S_DOWN, E_DOWN, S_ENTER, E_ENTER, S_ESCAPE, E_ESCAPE, S_CANCEL, E_CANCEL, S_TERMINATE, E_TERMINATE, S_YES, E_YES, S_QUIT, E_QUIT, S_PREVIOUS, E_PREVIOUS, S_NEXT, E_NEXT, S_FIRST, E_FIRST, S_LAST, E_LAST, S_MOST_WAITING, E_MOST_WAITING, S_OTHER, E_OTHER, F_UP_ordinal, F_PREVIOUS_ordinal, F_NEXT_ordinal, F_FIRST_ordinal, F_LAST_ordinal, F_MOST_WAITING_ordinal, F_ESCAPE_ordinal, F_OTHER_ordinal, F_CANCEL_ordinal, F_QUIT_ordinal, F_ENTER_ordinal, F_DOWN_ordinal, F_TERMINATE_ordinal, F_YES_ordinal⟩ := id B
  have ef : entryFrame m #[.ref a1] 1 = (mkF m 0 #[.val (.ref a1)] []) := by first | (simp [entryFrame, mkF, argsToLocals, Value.category]; done) | rfl
  rw [ef]
  refine own_go (fun t k => XS.aloadN X0.here hx rfl (hb hby d1_0) rfl rfl k) ?_
  show own_G p e below _ T0 (mkF m 1 #[.val (.ref a1)] [(.ref a1)])
  obtain ⟨T1, X1, e1, st1⟩ := getS X0 hx hZ hown (host := "") (hw _ (List.mem_of_getElem? (i := 38) rfl)) Via.refl e0 S_PREVIOUS (g := (mkF m 1 #[.val (.ref a1)] [(.ref a1)])) rfl (hb hby d1_1)
  refine own_go st1 ?_
  show own_G p e below _ T1 (mkF m 4 #[.val (.ref a1)] [(.ref a_PREVIOUS), (.ref a1)])
  by_cases hc2 : a1 = a_PREVIOUS
  ·
    refine own_go (fun t k => Jvm.Free.XT.acmpYes X1.here hx rfl (pc0 := 4) (pc' := 35) rfl (hb hby d1_4) rfl rfl rfl (own_acT hc2) (by decide) (by decide) k) ?_
    show own_G p e below _ T1 (mkF m 35 #[.val (.ref a1)] [])
    refine own_go (fun t k => XS.iconst X1.here hx rfl (hb hby d1_35) k) ?_
    show own_G p e below _ T1 (mkF m 36 #[.val (.ref a1)] [(.int (1 : Int32))])
    refine own_go (fun t k => XS.goto X1.here hx rfl (pc0 := 36) (pc' := 40) rfl (hb hby d1_36) (by decide) (by decide) k) ?_
    show own_G p e below _ T1 (mkF m 40 #[.val (.ref a1)] [(.int (1 : Int32))])
    exact own_retN X1 hx hlk hret (by simp) (hb hby d1_40) (by decide) (by decide) ⟨congrArg some (congrArg Value.int (Eq.symm (show (own_steps a_UP a_DOWN a_ENTER a_ESCAPE a_CANCEL a_TERMINATE a_YES a_QUIT a_PREVIOUS a_NEXT a_FIRST a_LAST a_MOST_WAITING a_OTHER a1) = (nar .boolean (1 : Int32)) from (by unfold own_steps; rw [if_pos hc2])))), rfl, e1⟩
  ·
    refine own_go (fun t k => Jvm.Free.XT.acmpNo X1.here hx rfl (hb hby d1_4) rfl rfl rfl (own_acF hc2) k) ?_
    show own_G p e below _ T1 (mkF m 7 #[.val (.ref a1)] [])
    refine own_go (fun t k => XS.aloadN X1.here hx rfl (hb hby d1_7) rfl rfl k) ?_
    show own_G p e below _ T1 (mkF m 8 #[.val (.ref a1)] [(.ref a1)])
    obtain ⟨T3, X3, e3, st3⟩ := getS X1 hx hZ hown (host := "") (hw _ (List.mem_of_getElem? (i := 39) rfl)) Via.refl e1 S_NEXT (g := (mkF m 8 #[.val (.ref a1)] [(.ref a1)])) rfl (hb hby d1_8)
    refine own_go st3 ?_
    show own_G p e below _ T3 (mkF m 11 #[.val (.ref a1)] [(.ref a_NEXT), (.ref a1)])
    by_cases hc4 : a1 = a_NEXT
    ·
      refine own_go (fun t k => Jvm.Free.XT.acmpYes X3.here hx rfl (pc0 := 11) (pc' := 35) rfl (hb hby d1_11) rfl rfl rfl (own_acT hc4) (by decide) (by decide) k) ?_
      show own_G p e below _ T3 (mkF m 35 #[.val (.ref a1)] [])
      refine own_go (fun t k => XS.iconst X3.here hx rfl (hb hby d1_35) k) ?_
      show own_G p e below _ T3 (mkF m 36 #[.val (.ref a1)] [(.int (1 : Int32))])
      refine own_go (fun t k => XS.goto X3.here hx rfl (pc0 := 36) (pc' := 40) rfl (hb hby d1_36) (by decide) (by decide) k) ?_
      show own_G p e below _ T3 (mkF m 40 #[.val (.ref a1)] [(.int (1 : Int32))])
      exact own_retN X3 hx hlk hret (by simp) (hb hby d1_40) (by decide) (by decide) ⟨congrArg some (congrArg Value.int (Eq.symm (show (own_steps a_UP a_DOWN a_ENTER a_ESCAPE a_CANCEL a_TERMINATE a_YES a_QUIT a_PREVIOUS a_NEXT a_FIRST a_LAST a_MOST_WAITING a_OTHER a1) = (nar .boolean (1 : Int32)) from (by unfold own_steps; rw [if_neg hc2, if_pos hc4])))), rfl, e3⟩
    ·
      refine own_go (fun t k => Jvm.Free.XT.acmpNo X3.here hx rfl (hb hby d1_11) rfl rfl rfl (own_acF hc4) k) ?_
      show own_G p e below _ T3 (mkF m 14 #[.val (.ref a1)] [])
      refine own_go (fun t k => XS.aloadN X3.here hx rfl (hb hby d1_14) rfl rfl k) ?_
      show own_G p e below _ T3 (mkF m 15 #[.val (.ref a1)] [(.ref a1)])
      obtain ⟨T5, X5, e5, st5⟩ := getS X3 hx hZ hown (host := "") (hw _ (List.mem_of_getElem? (i := 40) rfl)) Via.refl e3 S_FIRST (g := (mkF m 15 #[.val (.ref a1)] [(.ref a1)])) rfl (hb hby d1_15)
      refine own_go st5 ?_
      show own_G p e below _ T5 (mkF m 18 #[.val (.ref a1)] [(.ref a_FIRST), (.ref a1)])
      by_cases hc6 : a1 = a_FIRST
      ·
        refine own_go (fun t k => Jvm.Free.XT.acmpYes X5.here hx rfl (pc0 := 18) (pc' := 35) rfl (hb hby d1_18) rfl rfl rfl (own_acT hc6) (by decide) (by decide) k) ?_
        show own_G p e below _ T5 (mkF m 35 #[.val (.ref a1)] [])
        refine own_go (fun t k => XS.iconst X5.here hx rfl (hb hby d1_35) k) ?_
        show own_G p e below _ T5 (mkF m 36 #[.val (.ref a1)] [(.int (1 : Int32))])
        refine own_go (fun t k => XS.goto X5.here hx rfl (pc0 := 36) (pc' := 40) rfl (hb hby d1_36) (by decide) (by decide) k) ?_
        show own_G p e below _ T5 (mkF m 40 #[.val (.ref a1)] [(.int (1 : Int32))])
        exact own_retN X5 hx hlk hret (by simp) (hb hby d1_40) (by decide) (by decide) ⟨congrArg some (congrArg Value.int (Eq.symm (show (own_steps a_UP a_DOWN a_ENTER a_ESCAPE a_CANCEL a_TERMINATE a_YES a_QUIT a_PREVIOUS a_NEXT a_FIRST a_LAST a_MOST_WAITING a_OTHER a1) = (nar .boolean (1 : Int32)) from (by unfold own_steps; rw [if_neg hc2, if_neg hc4, if_pos hc6])))), rfl, e5⟩
      ·
        refine own_go (fun t k => Jvm.Free.XT.acmpNo X5.here hx rfl (hb hby d1_18) rfl rfl rfl (own_acF hc6) k) ?_
        show own_G p e below _ T5 (mkF m 21 #[.val (.ref a1)] [])
        refine own_go (fun t k => XS.aloadN X5.here hx rfl (hb hby d1_21) rfl rfl k) ?_
        show own_G p e below _ T5 (mkF m 22 #[.val (.ref a1)] [(.ref a1)])
        obtain ⟨T7, X7, e7, st7⟩ := getS X5 hx hZ hown (host := "") (hw _ (List.mem_of_getElem? (i := 41) rfl)) Via.refl e5 S_LAST (g := (mkF m 22 #[.val (.ref a1)] [(.ref a1)])) rfl (hb hby d1_22)
        refine own_go st7 ?_
        show own_G p e below _ T7 (mkF m 25 #[.val (.ref a1)] [(.ref a_LAST), (.ref a1)])
        by_cases hc8 : a1 = a_LAST
        ·
          refine own_go (fun t k => Jvm.Free.XT.acmpYes X7.here hx rfl (pc0 := 25) (pc' := 35) rfl (hb hby d1_25) rfl rfl rfl (own_acT hc8) (by decide) (by decide) k) ?_
          show own_G p e below _ T7 (mkF m 35 #[.val (.ref a1)] [])
          refine own_go (fun t k => XS.iconst X7.here hx rfl (hb hby d1_35) k) ?_
          show own_G p e below _ T7 (mkF m 36 #[.val (.ref a1)] [(.int (1 : Int32))])
          refine own_go (fun t k => XS.goto X7.here hx rfl (pc0 := 36) (pc' := 40) rfl (hb hby d1_36) (by decide) (by decide) k) ?_
          show own_G p e below _ T7 (mkF m 40 #[.val (.ref a1)] [(.int (1 : Int32))])
          exact own_retN X7 hx hlk hret (by simp) (hb hby d1_40) (by decide) (by decide) ⟨congrArg some (congrArg Value.int (Eq.symm (show (own_steps a_UP a_DOWN a_ENTER a_ESCAPE a_CANCEL a_TERMINATE a_YES a_QUIT a_PREVIOUS a_NEXT a_FIRST a_LAST a_MOST_WAITING a_OTHER a1) = (nar .boolean (1 : Int32)) from (by unfold own_steps; rw [if_neg hc2, if_neg hc4, if_neg hc6, if_pos hc8])))), rfl, e7⟩
        ·
          refine own_go (fun t k => Jvm.Free.XT.acmpNo X7.here hx rfl (hb hby d1_25) rfl rfl rfl (own_acF hc8) k) ?_
          show own_G p e below _ T7 (mkF m 28 #[.val (.ref a1)] [])
          refine own_go (fun t k => XS.aloadN X7.here hx rfl (hb hby d1_28) rfl rfl k) ?_
          show own_G p e below _ T7 (mkF m 29 #[.val (.ref a1)] [(.ref a1)])
          obtain ⟨T9, X9, e9, st9⟩ := getS X7 hx hZ hown (host := "") (hw _ (List.mem_of_getElem? (i := 42) rfl)) Via.refl e7 S_MOST_WAITING (g := (mkF m 29 #[.val (.ref a1)] [(.ref a1)])) rfl (hb hby d1_29)
          refine own_go st9 ?_
          show own_G p e below _ T9 (mkF m 32 #[.val (.ref a1)] [(.ref a_MOST_WAITING), (.ref a1)])
          by_cases hc10 : a1 = a_MOST_WAITING
          ·
            refine own_go (fun t k => Jvm.Free.XT.acmpNo X9.here hx rfl (hb hby d1_32) rfl rfl rfl (own_acnF hc10) k) ?_
            show own_G p e below _ T9 (mkF m 35 #[.val (.ref a1)] [])
            refine own_go (fun t k => XS.iconst X9.here hx rfl (hb hby d1_35) k) ?_
            show own_G p e below _ T9 (mkF m 36 #[.val (.ref a1)] [(.int (1 : Int32))])
            refine own_go (fun t k => XS.goto X9.here hx rfl (pc0 := 36) (pc' := 40) rfl (hb hby d1_36) (by decide) (by decide) k) ?_
            show own_G p e below _ T9 (mkF m 40 #[.val (.ref a1)] [(.int (1 : Int32))])
            exact own_retN X9 hx hlk hret (by simp) (hb hby d1_40) (by decide) (by decide) ⟨congrArg some (congrArg Value.int (Eq.symm (show (own_steps a_UP a_DOWN a_ENTER a_ESCAPE a_CANCEL a_TERMINATE a_YES a_QUIT a_PREVIOUS a_NEXT a_FIRST a_LAST a_MOST_WAITING a_OTHER a1) = (nar .boolean (1 : Int32)) from (by unfold own_steps; rw [if_neg hc2, if_neg hc4, if_neg hc6, if_neg hc8, if_pos hc10])))), rfl, e9⟩
          ·
            refine own_go (fun t k => Jvm.Free.XT.acmpYes X9.here hx rfl (pc0 := 32) (pc' := 39) rfl (hb hby d1_32) rfl rfl rfl (own_acnT hc10) (by decide) (by decide) k) ?_
            show own_G p e below _ T9 (mkF m 39 #[.val (.ref a1)] [])
            refine own_go (fun t k => XS.iconst X9.here hx rfl (hb hby d1_39) k) ?_
            show own_G p e below _ T9 (mkF m 40 #[.val (.ref a1)] [(.int (0 : Int32))])
            exact own_retN X9 hx hlk hret (by simp) (hb hby d1_40) (by decide) (by decide) ⟨congrArg some (congrArg Value.int (Eq.symm (show (own_steps a_UP a_DOWN a_ENTER a_ESCAPE a_CANCEL a_TERMINATE a_YES a_QUIT a_PREVIOUS a_NEXT a_FIRST a_LAST a_MOST_WAITING a_OTHER a1) = (nar .boolean (0 : Int32)) from (by unfold own_steps; rw [if_neg hc2, if_neg hc4, if_neg hc6, if_neg hc8, if_neg hc10])))), rfl, e9⟩
theorem pn_0 : plainName "com/example/locktop/locktop/view/KeyStepsPinLaw" = true := by first | (simp [plainName, overriddenIn]; done) | decide +kernel
set_option maxRecDepth 65536 in
set_option maxHeartbeats 40000000 in
theorem rm0 (l : Launch) (Z : State) (a0 : Array Value) (hw : ∀ d ∈ tables_1, d.before a0 Z = true) (i0 : Int32) (a_UP a_DOWN a_ENTER a_ESCAPE a_CANCEL a_TERMINATE a_YES a_QUIT a_PREVIOUS a_NEXT a_FIRST a_LAST a_MOST_WAITING a_OTHER : Addr) (h0 : Heap) (n0 : Nat) (Z0 : n0 ≤ h0.size) (B : own_B Z h0 a_UP a_DOWN a_ENTER a_ESCAPE a_CANCEL a_TERMINATE a_YES a_QUIT a_PREVIOUS a_NEXT a_FIRST a_LAST a_MOST_WAITING a_OTHER) :
    own_M l Z x code maxLocals ret room_1 #[.int i0] h0 (fun v h L => v = some (.int 1) ∧ Fr n0 L) := by
  refine own_body pn_0 ?_
  intro p e s m below meth c T0 hx hby hml hlk hown hret hnm hZ X0 e0
  replace hown : s.vm.findClass "com/example/locktop/locktop/view/KeyStepsPinLaw" = some m.cls := hown
  replace hml : c.maxLocals = 5 := hml
  replace hret : meth.sig.returnType = some .boolean := hret
  obtain ⟨S_UP, E_UP, S_DOWN, E_DOWN, S_ENTER, E_ENTER, S_ESCAPE, E_ESCAPE, S_CANCEL, E_CANCEL, S_TERMINATE, E_TERMINATE, S_YES, E_YES, S_QUIT, E_QUIT, S_PREVIOUS, E_PREVIOUS, S_NEXT, E_NEXT, S_FIRST, E_FIRST, S_LAST, E_LAST, S_MOST_WAITING, E_MOST_WAITING, S_OTHER, E_OTHER, F_UP_ordinal, F_PREVIOUS_ordinal, F_NEXT_ordinal, F_FIRST_ordinal, F_LAST_ordinal, F_MOST_WAITING_ordinal, F_ESCAPE_ordinal, F_OTHER_ordinal, F_CANCEL_ordinal, F_QUIT_ordinal, F_ENTER_ordinal, F_DOWN_ordinal, F_TERMINATE_ordinal, F_YES_ordinal⟩ := id B
  have hk := own_l14 ((i0 &&& (2147483647 : Int32)) % (14 : Int32)) (own_rem _ 14 (own_mask i0) (by decide)).1 (Int.lt_add_one_iff.mp (own_rem _ 14 (own_mask i0) (by decide)).2)
  have N0 := Fr.nil n0
  have ef : entryFrame m #[.int i0] maxLocals = (mkF m 0 #[.val (.int i0), .unset, .unset, .unset, .unset] []) := by first | (simp [entryFrame, mkF, argsToLocals, Value.category, maxLocals]; done) | rfl
  rw [ef]
  refine own_go (fun t k => XS.bipush X0.here hx rfl (hb hby at_0) k) ?_
  show own_G p e below _ T0 (mkF m 2 #[.val (.int i0), .unset, .unset, .unset, .unset] [(.int (14 : Int32))])
  obtain ⟨T1, h1, c1, X1, e1, E1, A1, O1, st1⟩ := newR X0 hx hZ hown (hw _ (List.mem_of_getElem? (i := 0) rfl)) (hw _ (List.mem_of_getElem? (i := 1) rfl)) e0 (g := (mkF m 2 #[.val (.int i0), .unset, .unset, .unset, .unset] [(.int (14 : Int32))])) rfl (hb hby at_2) rfl (by decide) (cap := 14) (by decide) (by decide) (by decide) (by decide)
  obtain ⟨a1, g1⟩ : ∃ z, z = h0.size := ⟨_, rfl⟩
  rw [← g1] at A1 st1
  replace A1 : Arr Z h1 a1 (own_cell c1 #[.null, .null, .null, .null, .null, .null, .null, .null, .null, .null, .null, .null, .null, .null]) (.object "com/example/locktop/locktop/view/Key") := A1
  have x1 : Ext h0 h1 := E1
  have j1 : h0.size ≤ a1 := Nat.le_of_eq g1.symm
  refine own_go st1 ?_
  show own_G p e below _ T1 (mkF m 5 #[.val (.int i0), .unset, .unset, .unset, .unset] [(.ref a1)])
  refine own_go (fun t k => XS.dup X1.here hx rfl (hb hby at_5) rfl rfl k) ?_
  show own_G p e below _ T1 (mkF m 6 #[.val (.int i0), .unset, .unset, .unset, .unset] [(.ref a1), (.ref a1)])
  refine own_go (fun t k => XS.iconst X1.here hx rfl (hb hby at_6) k) ?_
  show own_G p e below _ T1 (mkF m 7 #[.val (.int i0), .unset, .unset, .unset, .unset] [(.int (0 : Int32)), (.ref a1), (.ref a1)])
  obtain ⟨T2, X2, e2, st2⟩ := getS X1 hx hZ hown (host := "") (hw _ (List.mem_of_getElem? (i := 2) rfl)) Via.refl e1 (S_UP.ext x1) (g := (mkF m 7 #[.val (.int i0), .unset, .unset, .unset, .unset] [(.int (0 : Int32)), (.ref a1), (.ref a1)])) rfl (hb hby at_7)
  refine own_go st2 ?_
  show own_G p e below _ T2 (mkF m 10 #[.val (.int i0), .unset, .unset, .unset, .unset] [(.ref a_UP), (.int (0 : Int32)), (.ref a1), (.ref a1)])
  obtain ⟨T3, h3, X3, e3, W3, st3⟩ := stR X2 hx hZ e2 A1 (j := (0 : Int32)) (own_in (n := 14) rfl (by decide)) rfl (Sto.of A1 O1 (Ins.self (E_UP.ext x1))) (g := (mkF m 10 #[.val (.int i0), .unset, .unset, .unset, .unset] [(.ref a_UP), (.int (0 : Int32)), (.ref a1), (.ref a1)])) rfl rfl (hb hby at_10)
  have A3 : Arr Z h3 a1 (own_cell c1 #[(.ref a_UP), .null, .null, .null, .null, .null, .null, .null, .null, .null, .null, .null, .null, .null]) (.object "com/example/locktop/locktop/view/Key") := A1.same W3
  have x3 : Ext h0 h3 := own_ext_wr x1 W3 j1
  have N3 := Fr.snoc X3 N0 (Nat.le_trans Z0 j1)
  refine own_go st3 ?_
  show own_G p e below _ T3 (mkF m 11 #[.val (.int i0), .unset, .unset, .unset, .unset] [(.ref a1)])
  refine own_go (fun t k => XS.dup X3.here hx rfl (hb hby at_11) rfl rfl k) ?_
  show own_G p e below _ T3 (mkF m 12 #[.val (.int i0), .unset, .unset, .unset, .unset] [(.ref a1), (.ref a1)])
  refine own_go (fun t k => XS.iconst X3.here hx rfl (hb hby at_12) k) ?_
  show own_G p e below _ T3 (mkF m 13 #[.val (.int i0), .unset, .unset, .unset, .unset] [(.int (1 : Int32)), (.ref a1), (.ref a1)])
  obtain ⟨T4, X4, e4, st4⟩ := getS X3 hx hZ hown (host := "") (hw _ (List.mem_of_getElem? (i := 6) rfl)) Via.refl e3 (S_DOWN.ext x3) (g := (mkF m 13 #[.val (.int i0), .unset, .unset, .unset, .unset] [(.int (1 : Int32)), (.ref a1), (.ref a1)])) rfl (hb hby at_13)
  refine own_go st4 ?_
  show own_G p e below _ T4 (mkF m 16 #[.val (.int i0), .unset, .unset, .unset, .unset] [(.ref a_DOWN), (.int (1 : Int32)), (.ref a1), (.ref a1)])
  obtain ⟨T5, h5, X5, e5, W5, st5⟩ := stR X4 hx hZ e4 A3 (j := (1 : Int32)) (own_in (n := 14) rfl (by decide)) rfl (Sto.of A3 O1 (Ins.self (E_DOWN.ext x3))) (g := (mkF m 16 #[.val (.int i0), .unset, .unset, .unset, .unset] [(.ref a_DOWN), (.int (1 : Int32)), (.ref a1), (.ref a1)])) rfl rfl (hb hby at_16)
  have A5 : Arr Z h5 a1 (own_cell c1 #[(.ref a_UP), (.ref a_DOWN), .null, .null, .null, .null, .null, .null, .null, .null, .null, .null, .null, .null]) (.object "com/example/locktop/locktop/view/Key") := A3.same W5
  have x5 : Ext h0 h5 := own_ext_wr x3 W5 j1
  have N5 := Fr.snoc X5 N3 (Nat.le_trans Z0 j1)
  refine own_go st5 ?_
  show own_G p e below _ T5 (mkF m 17 #[.val (.int i0), .unset, .unset, .unset, .unset] [(.ref a1)])
  refine own_go (fun t k => XS.dup X5.here hx rfl (hb hby at_17) rfl rfl k) ?_
  show own_G p e below _ T5 (mkF m 18 #[.val (.int i0), .unset, .unset, .unset, .unset] [(.ref a1), (.ref a1)])
  refine own_go (fun t k => XS.iconst X5.here hx rfl (hb hby at_18) k) ?_
  show own_G p e below _ T5 (mkF m 19 #[.val (.int i0), .unset, .unset, .unset, .unset] [(.int (2 : Int32)), (.ref a1), (.ref a1)])
  obtain ⟨T6, X6, e6, st6⟩ := getS X5 hx hZ hown (host := "") (hw _ (List.mem_of_getElem? (i := 8) rfl)) Via.refl e5 (S_ENTER.ext x5) (g := (mkF m 19 #[.val (.int i0), .unset, .unset, .unset, .unset] [(.int (2 : Int32)), (.ref a1), (.ref a1)])) rfl (hb hby at_19)
  refine own_go st6 ?_
  show own_G p e below _ T6 (mkF m 22 #[.val (.int i0), .unset, .unset, .unset, .unset] [(.ref a_ENTER), (.int (2 : Int32)), (.ref a1), (.ref a1)])
  obtain ⟨T7, h7, X7, e7, W7, st7⟩ := stR X6 hx hZ e6 A5 (j := (2 : Int32)) (own_in (n := 14) rfl (by decide)) rfl (Sto.of A5 O1 (Ins.self (E_ENTER.ext x5))) (g := (mkF m 22 #[.val (.int i0), .unset, .unset, .unset, .unset] [(.ref a_ENTER), (.int (2 : Int32)), (.ref a1), (.ref a1)])) rfl rfl (hb hby at_22)
  have A7 : Arr Z h7 a1 (own_cell c1 #[(.ref a_UP), (.ref a_DOWN), (.ref a_ENTER), .null, .null, .null, .null, .null, .null, .null, .null, .null, .null, .null]) (.object "com/example/locktop/locktop/view/Key") := A5.same W7
  have x7 : Ext h0 h7 := own_ext_wr x5 W7 j1
  have N7 := Fr.snoc X7 N5 (Nat.le_trans Z0 j1)
  refine own_go st7 ?_
  show own_G p e below _ T7 (mkF m 23 #[.val (.int i0), .unset, .unset, .unset, .unset] [(.ref a1)])
  refine own_go (fun t k => XS.dup X7.here hx rfl (hb hby at_23) rfl rfl k) ?_
  show own_G p e below _ T7 (mkF m 24 #[.val (.int i0), .unset, .unset, .unset, .unset] [(.ref a1), (.ref a1)])
  refine own_go (fun t k => XS.iconst X7.here hx rfl (hb hby at_24) k) ?_
  show own_G p e below _ T7 (mkF m 25 #[.val (.int i0), .unset, .unset, .unset, .unset] [(.int (3 : Int32)), (.ref a1), (.ref a1)])
  obtain ⟨T8, X8, e8, st8⟩ := getS X7 hx hZ hown (host := "") (hw _ (List.mem_of_getElem? (i := 10) rfl)) Via.refl e7 (S_ESCAPE.ext x7) (g := (mkF m 25 #[.val (.int i0), .unset, .unset, .unset, .unset] [(.int (3 : Int32)), (.ref a1), (.ref a1)])) rfl (hb hby at_25)
  refine own_go st8 ?_
  show own_G p e below _ T8 (mkF m 28 #[.val (.int i0), .unset, .unset, .unset, .unset] [(.ref a_ESCAPE), (.int (3 : Int32)), (.ref a1), (.ref a1)])
  obtain ⟨T9, h9, X9, e9, W9, st9⟩ := stR X8 hx hZ e8 A7 (j := (3 : Int32)) (own_in (n := 14) rfl (by decide)) rfl (Sto.of A7 O1 (Ins.self (E_ESCAPE.ext x7))) (g := (mkF m 28 #[.val (.int i0), .unset, .unset, .unset, .unset] [(.ref a_ESCAPE), (.int (3 : Int32)), (.ref a1), (.ref a1)])) rfl rfl (hb hby at_28)
  have A9 : Arr Z h9 a1 (own_cell c1 #[(.ref a_UP), (.ref a_DOWN), (.ref a_ENTER), (.ref a_ESCAPE), .null, .null, .null, .null, .null, .null, .null, .null, .null, .null]) (.object "com/example/locktop/locktop/view/Key") := A7.same W9
  have x9 : Ext h0 h9 := own_ext_wr x7 W9 j1
  have N9 := Fr.snoc X9 N7 (Nat.le_trans Z0 j1)
  refine own_go st9 ?_
  show own_G p e below _ T9 (mkF m 29 #[.val (.int i0), .unset, .unset, .unset, .unset] [(.ref a1)])
  refine own_go (fun t k => XS.dup X9.here hx rfl (hb hby at_29) rfl rfl k) ?_
  show own_G p e below _ T9 (mkF m 30 #[.val (.int i0), .unset, .unset, .unset, .unset] [(.ref a1), (.ref a1)])
  refine own_go (fun t k => XS.iconst X9.here hx rfl (hb hby at_30) k) ?_
  show own_G p e below _ T9 (mkF m 31 #[.val (.int i0), .unset, .unset, .unset, .unset] [(.int (4 : Int32)), (.ref a1), (.ref a1)])
  obtain ⟨T10, X10, e10, st10⟩ := getS X9 hx hZ hown (host := "") (hw _ (List.mem_of_getElem? (i := 12) rfl)) Via.refl e9 (S_CANCEL.ext x9) (g := (mkF m 31 #[.val (.int i0), .unset, .unset, .unset, .unset] [(.int (4 : Int32)), (.ref a1), (.ref a1)])) rfl (hb hby at_31)
  refine own_go st10 ?_
  show own_G p e below _ T10 (mkF m 34 #[.val (.int i0), .unset, .unset, .unset, .unset] [(.ref a_CANCEL), (.int (4 : Int32)), (.ref a1), (.ref a1)])
  obtain ⟨T11, h11, X11, e11, W11, st11⟩ := stR X10 hx hZ e10 A9 (j := (4 : Int32)) (own_in (n := 14) rfl (by decide)) rfl (Sto.of A9 O1 (Ins.self (E_CANCEL.ext x9))) (g := (mkF m 34 #[.val (.int i0), .unset, .unset, .unset, .unset] [(.ref a_CANCEL), (.int (4 : Int32)), (.ref a1), (.ref a1)])) rfl rfl (hb hby at_34)
  have A11 : Arr Z h11 a1 (own_cell c1 #[(.ref a_UP), (.ref a_DOWN), (.ref a_ENTER), (.ref a_ESCAPE), (.ref a_CANCEL), .null, .null, .null, .null, .null, .null, .null, .null, .null]) (.object "com/example/locktop/locktop/view/Key") := A9.same W11
  have x11 : Ext h0 h11 := own_ext_wr x9 W11 j1
  have N11 := Fr.snoc X11 N9 (Nat.le_trans Z0 j1)
  refine own_go st11 ?_
  show own_G p e below _ T11 (mkF m 35 #[.val (.int i0), .unset, .unset, .unset, .unset] [(.ref a1)])
  refine own_go (fun t k => XS.dup X11.here hx rfl (hb hby at_35) rfl rfl k) ?_
  show own_G p e below _ T11 (mkF m 36 #[.val (.int i0), .unset, .unset, .unset, .unset] [(.ref a1), (.ref a1)])
  refine own_go (fun t k => XS.iconst X11.here hx rfl (hb hby at_36) k) ?_
  show own_G p e below _ T11 (mkF m 37 #[.val (.int i0), .unset, .unset, .unset, .unset] [(.int (5 : Int32)), (.ref a1), (.ref a1)])
  obtain ⟨T12, X12, e12, st12⟩ := getS X11 hx hZ hown (host := "") (hw _ (List.mem_of_getElem? (i := 14) rfl)) Via.refl e11 (S_TERMINATE.ext x11) (g := (mkF m 37 #[.val (.int i0), .unset, .unset, .unset, .unset] [(.int (5 : Int32)), (.ref a1), (.ref a1)])) rfl (hb hby at_37)
  refine own_go st12 ?_
  show own_G p e below _ T12 (mkF m 40 #[.val (.int i0), .unset, .unset, .unset, .unset] [(.ref a_TERMINATE), (.int (5 : Int32)), (.ref a1), (.ref a1)])
  obtain ⟨T13, h13, X13, e13, W13, st13⟩ := stR X12 hx hZ e12 A11 (j := (5 : Int32)) (own_in (n := 14) rfl (by decide)) rfl (Sto.of A11 O1 (Ins.self (E_TERMINATE.ext x11))) (g := (mkF m 40 #[.val (.int i0), .unset, .unset, .unset, .unset] [(.ref a_TERMINATE), (.int (5 : Int32)), (.ref a1), (.ref a1)])) rfl rfl (hb hby at_40)
  have A13 : Arr Z h13 a1 (own_cell c1 #[(.ref a_UP), (.ref a_DOWN), (.ref a_ENTER), (.ref a_ESCAPE), (.ref a_CANCEL), (.ref a_TERMINATE), .null, .null, .null, .null, .null, .null, .null, .null]) (.object "com/example/locktop/locktop/view/Key") := A11.same W13
  have x13 : Ext h0 h13 := own_ext_wr x11 W13 j1
  have N13 := Fr.snoc X13 N11 (Nat.le_trans Z0 j1)
  refine own_go st13 ?_
  show own_G p e below _ T13 (mkF m 41 #[.val (.int i0), .unset, .unset, .unset, .unset] [(.ref a1)])
  refine own_go (fun t k => XS.dup X13.here hx rfl (hb hby at_41) rfl rfl k) ?_
  show own_G p e below _ T13 (mkF m 42 #[.val (.int i0), .unset, .unset, .unset, .unset] [(.ref a1), (.ref a1)])
  refine own_go (fun t k => XS.bipush X13.here hx rfl (hb hby at_42) k) ?_
  show own_G p e below _ T13 (mkF m 44 #[.val (.int i0), .unset, .unset, .unset, .unset] [(.int (6 : Int32)), (.ref a1), (.ref a1)])
  obtain ⟨T14, X14, e14, st14⟩ := getS X13 hx hZ hown (host := "") (hw _ (List.mem_of_getElem? (i := 16) rfl)) Via.refl e13 (S_YES.ext x13) (g := (mkF m 44 #[.val (.int i0), .unset, .unset, .unset, .unset] [(.int (6 : Int32)), (.ref a1), (.ref a1)])) rfl (hb hby at_44)
  refine own_go st14 ?_
  show own_G p e below _ T14 (mkF m 47 #[.val (.int i0), .unset, .unset, .unset, .unset] [(.ref a_YES), (.int (6 : Int32)), (.ref a1), (.ref a1)])
  obtain ⟨T15, h15, X15, e15, W15, st15⟩ := stR X14 hx hZ e14 A13 (j := (6 : Int32)) (own_in (n := 14) rfl (by decide)) rfl (Sto.of A13 O1 (Ins.self (E_YES.ext x13))) (g := (mkF m 47 #[.val (.int i0), .unset, .unset, .unset, .unset] [(.ref a_YES), (.int (6 : Int32)), (.ref a1), (.ref a1)])) rfl rfl (hb hby at_47)
  have A15 : Arr Z h15 a1 (own_cell c1 #[(.ref a_UP), (.ref a_DOWN), (.ref a_ENTER), (.ref a_ESCAPE), (.ref a_CANCEL), (.ref a_TERMINATE), (.ref a_YES), .null, .null, .null, .null, .null, .null, .null]) (.object "com/example/locktop/locktop/view/Key") := A13.same W15
  have x15 : Ext h0 h15 := own_ext_wr x13 W15 j1
  have N15 := Fr.snoc X15 N13 (Nat.le_trans Z0 j1)
  refine own_go st15 ?_
  show own_G p e below _ T15 (mkF m 48 #[.val (.int i0), .unset, .unset, .unset, .unset] [(.ref a1)])
  refine own_go (fun t k => XS.dup X15.here hx rfl (hb hby at_48) rfl rfl k) ?_
  show own_G p e below _ T15 (mkF m 49 #[.val (.int i0), .unset, .unset, .unset, .unset] [(.ref a1), (.ref a1)])
  refine own_go (fun t k => XS.bipush X15.here hx rfl (hb hby at_49) k) ?_
  show own_G p e below _ T15 (mkF m 51 #[.val (.int i0), .unset, .unset, .unset, .unset] [(.int (7 : Int32)), (.ref a1), (.ref a1)])
  obtain ⟨T16, X16, e16, st16⟩ := getS X15 hx hZ hown (host := "") (hw _ (List.mem_of_getElem? (i := 18) rfl)) Via.refl e15 (S_QUIT.ext x15) (g := (mkF m 51 #[.val (.int i0), .unset, .unset, .unset, .unset] [(.int (7 : Int32)), (.ref a1), (.ref a1)])) rfl (hb hby at_51)
  refine own_go st16 ?_
  show own_G p e below _ T16 (mkF m 54 #[.val (.int i0), .unset, .unset, .unset, .unset] [(.ref a_QUIT), (.int (7 : Int32)), (.ref a1), (.ref a1)])
  obtain ⟨T17, h17, X17, e17, W17, st17⟩ := stR X16 hx hZ e16 A15 (j := (7 : Int32)) (own_in (n := 14) rfl (by decide)) rfl (Sto.of A15 O1 (Ins.self (E_QUIT.ext x15))) (g := (mkF m 54 #[.val (.int i0), .unset, .unset, .unset, .unset] [(.ref a_QUIT), (.int (7 : Int32)), (.ref a1), (.ref a1)])) rfl rfl (hb hby at_54)
  have A17 : Arr Z h17 a1 (own_cell c1 #[(.ref a_UP), (.ref a_DOWN), (.ref a_ENTER), (.ref a_ESCAPE), (.ref a_CANCEL), (.ref a_TERMINATE), (.ref a_YES), (.ref a_QUIT), .null, .null, .null, .null, .null, .null]) (.object "com/example/locktop/locktop/view/Key") := A15.same W17
  have x17 : Ext h0 h17 := own_ext_wr x15 W17 j1
  have N17 := Fr.snoc X17 N15 (Nat.le_trans Z0 j1)
  refine own_go st17 ?_
  show own_G p e below _ T17 (mkF m 55 #[.val (.int i0), .unset, .unset, .unset, .unset] [(.ref a1)])
  refine own_go (fun t k => XS.dup X17.here hx rfl (hb hby at_55) rfl rfl k) ?_
  show own_G p e below _ T17 (mkF m 56 #[.val (.int i0), .unset, .unset, .unset, .unset] [(.ref a1), (.ref a1)])
  refine own_go (fun t k => XS.bipush X17.here hx rfl (hb hby at_56) k) ?_
  show own_G p e below _ T17 (mkF m 58 #[.val (.int i0), .unset, .unset, .unset, .unset] [(.int (8 : Int32)), (.ref a1), (.ref a1)])
  obtain ⟨T18, X18, e18, st18⟩ := getS X17 hx hZ hown (host := "") (hw _ (List.mem_of_getElem? (i := 20) rfl)) Via.refl e17 (S_PREVIOUS.ext x17) (g := (mkF m 58 #[.val (.int i0), .unset, .unset, .unset, .unset] [(.int (8 : Int32)), (.ref a1), (.ref a1)])) rfl (hb hby at_58)
  refine own_go st18 ?_
  show own_G p e below _ T18 (mkF m 61 #[.val (.int i0), .unset, .unset, .unset, .unset] [(.ref a_PREVIOUS), (.int (8 : Int32)), (.ref a1), (.ref a1)])
  obtain ⟨T19, h19, X19, e19, W19, st19⟩ := stR X18 hx hZ e18 A17 (j := (8 : Int32)) (own_in (n := 14) rfl (by decide)) rfl (Sto.of A17 O1 (Ins.self (E_PREVIOUS.ext x17))) (g := (mkF m 61 #[.val (.int i0), .unset, .unset, .unset, .unset] [(.ref a_PREVIOUS), (.int (8 : Int32)), (.ref a1), (.ref a1)])) rfl rfl (hb hby at_61)
  have A19 : Arr Z h19 a1 (own_cell c1 #[(.ref a_UP), (.ref a_DOWN), (.ref a_ENTER), (.ref a_ESCAPE), (.ref a_CANCEL), (.ref a_TERMINATE), (.ref a_YES), (.ref a_QUIT), (.ref a_PREVIOUS), .null, .null, .null, .null, .null]) (.object "com/example/locktop/locktop/view/Key") := A17.same W19
  have x19 : Ext h0 h19 := own_ext_wr x17 W19 j1
  have N19 := Fr.snoc X19 N17 (Nat.le_trans Z0 j1)
  refine own_go st19 ?_
  show own_G p e below _ T19 (mkF m 62 #[.val (.int i0), .unset, .unset, .unset, .unset] [(.ref a1)])
  refine own_go (fun t k => XS.dup X19.here hx rfl (hb hby at_62) rfl rfl k) ?_
  show own_G p e below _ T19 (mkF m 63 #[.val (.int i0), .unset, .unset, .unset, .unset] [(.ref a1), (.ref a1)])
  refine own_go (fun t k => XS.bipush X19.here hx rfl (hb hby at_63) k) ?_
  show own_G p e below _ T19 (mkF m 65 #[.val (.int i0), .unset, .unset, .unset, .unset] [(.int (9 : Int32)), (.ref a1), (.ref a1)])
  obtain ⟨T20, X20, e20, st20⟩ := getS X19 hx hZ hown (host := "") (hw _ (List.mem_of_getElem? (i := 22) rfl)) Via.refl e19 (S_NEXT.ext x19) (g := (mkF m 65 #[.val (.int i0), .unset, .unset, .unset, .unset] [(.int (9 : Int32)), (.ref a1), (.ref a1)])) rfl (hb hby at_65)
  refine own_go st20 ?_
  show own_G p e below _ T20 (mkF m 68 #[.val (.int i0), .unset, .unset, .unset, .unset] [(.ref a_NEXT), (.int (9 : Int32)), (.ref a1), (.ref a1)])
  obtain ⟨T21, h21, X21, e21, W21, st21⟩ := stR X20 hx hZ e20 A19 (j := (9 : Int32)) (own_in (n := 14) rfl (by decide)) rfl (Sto.of A19 O1 (Ins.self (E_NEXT.ext x19))) (g := (mkF m 68 #[.val (.int i0), .unset, .unset, .unset, .unset] [(.ref a_NEXT), (.int (9 : Int32)), (.ref a1), (.ref a1)])) rfl rfl (hb hby at_68)
  have A21 : Arr Z h21 a1 (own_cell c1 #[(.ref a_UP), (.ref a_DOWN), (.ref a_ENTER), (.ref a_ESCAPE), (.ref a_CANCEL), (.ref a_TERMINATE), (.ref a_YES), (.ref a_QUIT), (.ref a_PREVIOUS), (.ref a_NEXT), .null, .null, .null, .null]) (.object "com/example/locktop/locktop/view/Key") := A19.same W21
  have x21 : Ext h0 h21 := own_ext_wr x19 W21 j1
  have N21 := Fr.snoc X21 N19 (Nat.le_trans Z0 j1)
  refine own_go st21 ?_
  show own_G p e below _ T21 (mkF m 69 #[.val (.int i0), .unset, .unset, .unset, .unset] [(.ref a1)])
  refine own_go (fun t k => XS.dup X21.here hx rfl (hb hby at_69) rfl rfl k) ?_
  show own_G p e below _ T21 (mkF m 70 #[.val (.int i0), .unset, .unset, .unset, .unset] [(.ref a1), (.ref a1)])
  refine own_go (fun t k => XS.bipush X21.here hx rfl (hb hby at_70) k) ?_
  show own_G p e below _ T21 (mkF m 72 #[.val (.int i0), .unset, .unset, .unset, .unset] [(.int (10 : Int32)), (.ref a1), (.ref a1)])
  obtain ⟨T22, X22, e22, st22⟩ := getS X21 hx hZ hown (host := "") (hw _ (List.mem_of_getElem? (i := 24) rfl)) Via.refl e21 (S_FIRST.ext x21) (g := (mkF m 72 #[.val (.int i0), .unset, .unset, .unset, .unset] [(.int (10 : Int32)), (.ref a1), (.ref a1)])) rfl (hb hby at_72)
  refine own_go st22 ?_
  show own_G p e below _ T22 (mkF m 75 #[.val (.int i0), .unset, .unset, .unset, .unset] [(.ref a_FIRST), (.int (10 : Int32)), (.ref a1), (.ref a1)])
  obtain ⟨T23, h23, X23, e23, W23, st23⟩ := stR X22 hx hZ e22 A21 (j := (10 : Int32)) (own_in (n := 14) rfl (by decide)) rfl (Sto.of A21 O1 (Ins.self (E_FIRST.ext x21))) (g := (mkF m 75 #[.val (.int i0), .unset, .unset, .unset, .unset] [(.ref a_FIRST), (.int (10 : Int32)), (.ref a1), (.ref a1)])) rfl rfl (hb hby at_75)
  have A23 : Arr Z h23 a1 (own_cell c1 #[(.ref a_UP), (.ref a_DOWN), (.ref a_ENTER), (.ref a_ESCAPE), (.ref a_CANCEL), (.ref a_TERMINATE), (.ref a_YES), (.ref a_QUIT), (.ref a_PREVIOUS), (.ref a_NEXT), (.ref a_FIRST), .null, .null, .null]) (.object "com/example/locktop/locktop/view/Key") := A21.same W23
  have x23 : Ext h0 h23 := own_ext_wr x21 W23 j1
  have N23 := Fr.snoc X23 N21 (Nat.le_trans Z0 j1)
  refine own_go st23 ?_
  show own_G p e below _ T23 (mkF m 76 #[.val (.int i0), .unset, .unset, .unset, .unset] [(.ref a1)])
  refine own_go (fun t k => XS.dup X23.here hx rfl (hb hby at_76) rfl rfl k) ?_
  show own_G p e below _ T23 (mkF m 77 #[.val (.int i0), .unset, .unset, .unset, .unset] [(.ref a1), (.ref a1)])
  refine own_go (fun t k => XS.bipush X23.here hx rfl (hb hby at_77) k) ?_
  show own_G p e below _ T23 (mkF m 79 #[.val (.int i0), .unset, .unset, .unset, .unset] [(.int (11 : Int32)), (.ref a1), (.ref a1)])
  obtain ⟨T24, X24, e24, st24⟩ := getS X23 hx hZ hown (host := "") (hw _ (List.mem_of_getElem? (i := 26) rfl)) Via.refl e23 (S_LAST.ext x23) (g := (mkF m 79 #[.val (.int i0), .unset, .unset, .unset, .unset] [(.int (11 : Int32)), (.ref a1), (.ref a1)])) rfl (hb hby at_79)
  refine own_go st24 ?_
  show own_G p e below _ T24 (mkF m 82 #[.val (.int i0), .unset, .unset, .unset, .unset] [(.ref a_LAST), (.int (11 : Int32)), (.ref a1), (.ref a1)])
  obtain ⟨T25, h25, X25, e25, W25, st25⟩ := stR X24 hx hZ e24 A23 (j := (11 : Int32)) (own_in (n := 14) rfl (by decide)) rfl (Sto.of A23 O1 (Ins.self (E_LAST.ext x23))) (g := (mkF m 82 #[.val (.int i0), .unset, .unset, .unset, .unset] [(.ref a_LAST), (.int (11 : Int32)), (.ref a1), (.ref a1)])) rfl rfl (hb hby at_82)
  have A25 : Arr Z h25 a1 (own_cell c1 #[(.ref a_UP), (.ref a_DOWN), (.ref a_ENTER), (.ref a_ESCAPE), (.ref a_CANCEL), (.ref a_TERMINATE), (.ref a_YES), (.ref a_QUIT), (.ref a_PREVIOUS), (.ref a_NEXT), (.ref a_FIRST), (.ref a_LAST), .null, .null]) (.object "com/example/locktop/locktop/view/Key") := A23.same W25
  have x25 : Ext h0 h25 := own_ext_wr x23 W25 j1
  have N25 := Fr.snoc X25 N23 (Nat.le_trans Z0 j1)
  refine own_go st25 ?_
  show own_G p e below _ T25 (mkF m 83 #[.val (.int i0), .unset, .unset, .unset, .unset] [(.ref a1)])
  refine own_go (fun t k => XS.dup X25.here hx rfl (hb hby at_83) rfl rfl k) ?_
  show own_G p e below _ T25 (mkF m 84 #[.val (.int i0), .unset, .unset, .unset, .unset] [(.ref a1), (.ref a1)])
  refine own_go (fun t k => XS.bipush X25.here hx rfl (hb hby at_84) k) ?_
  show own_G p e below _ T25 (mkF m 86 #[.val (.int i0), .unset, .unset, .unset, .unset] [(.int (12 : Int32)), (.ref a1), (.ref a1)])
  obtain ⟨T26, X26, e26, st26⟩ := getS X25 hx hZ hown (host := "") (hw _ (List.mem_of_getElem? (i := 28) rfl)) Via.refl e25 (S_MOST_WAITING.ext x25) (g := (mkF m 86 #[.val (.int i0), .unset, .unset, .unset, .unset] [(.int (12 : Int32)), (.ref a1), (.ref a1)])) rfl (hb hby at_86)
  refine own_go st26 ?_
  show own_G p e below _ T26 (mkF m 89 #[.val (.int i0), .unset, .unset, .unset, .unset] [(.ref a_MOST_WAITING), (.int (12 : Int32)), (.ref a1), (.ref a1)])
  obtain ⟨T27, h27, X27, e27, W27, st27⟩ := stR X26 hx hZ e26 A25 (j := (12 : Int32)) (own_in (n := 14) rfl (by decide)) rfl (Sto.of A25 O1 (Ins.self (E_MOST_WAITING.ext x25))) (g := (mkF m 89 #[.val (.int i0), .unset, .unset, .unset, .unset] [(.ref a_MOST_WAITING), (.int (12 : Int32)), (.ref a1), (.ref a1)])) rfl rfl (hb hby at_89)
  have A27 : Arr Z h27 a1 (own_cell c1 #[(.ref a_UP), (.ref a_DOWN), (.ref a_ENTER), (.ref a_ESCAPE), (.ref a_CANCEL), (.ref a_TERMINATE), (.ref a_YES), (.ref a_QUIT), (.ref a_PREVIOUS), (.ref a_NEXT), (.ref a_FIRST), (.ref a_LAST), (.ref a_MOST_WAITING), .null]) (.object "com/example/locktop/locktop/view/Key") := A25.same W27
  have x27 : Ext h0 h27 := own_ext_wr x25 W27 j1
  have N27 := Fr.snoc X27 N25 (Nat.le_trans Z0 j1)
  refine own_go st27 ?_
  show own_G p e below _ T27 (mkF m 90 #[.val (.int i0), .unset, .unset, .unset, .unset] [(.ref a1)])
  refine own_go (fun t k => XS.dup X27.here hx rfl (hb hby at_90) rfl rfl k) ?_
  show own_G p e below _ T27 (mkF m 91 #[.val (.int i0), .unset, .unset, .unset, .unset] [(.ref a1), (.ref a1)])
  refine own_go (fun t k => XS.bipush X27.here hx rfl (hb hby at_91) k) ?_
  show own_G p e below _ T27 (mkF m 93 #[.val (.int i0), .unset, .unset, .unset, .unset] [(.int (13 : Int32)), (.ref a1), (.ref a1)])
  obtain ⟨T28, X28, e28, st28⟩ := getS X27 hx hZ hown (host := "") (hw _ (List.mem_of_getElem? (i := 30) rfl)) Via.refl e27 (S_OTHER.ext x27) (g := (mkF m 93 #[.val (.int i0), .unset, .unset, .unset, .unset] [(.int (13 : Int32)), (.ref a1), (.ref a1)])) rfl (hb hby at_93)
  refine own_go st28 ?_
  show own_G p e below _ T28 (mkF m 96 #[.val (.int i0), .unset, .unset, .unset, .unset] [(.ref a_OTHER), (.int (13 : Int32)), (.ref a1), (.ref a1)])
  obtain ⟨T29, h29, X29, e29, W29, st29⟩ := stR X28 hx hZ e28 A27 (j := (13 : Int32)) (own_in (n := 14) rfl (by decide)) rfl (Sto.of A27 O1 (Ins.self (E_OTHER.ext x27))) (g := (mkF m 96 #[.val (.int i0), .unset, .unset, .unset, .unset] [(.ref a_OTHER), (.int (13 : Int32)), (.ref a1), (.ref a1)])) rfl rfl (hb hby at_96)
  have A29 : Arr Z h29 a1 (own_cell c1 #[(.ref a_UP), (.ref a_DOWN), (.ref a_ENTER), (.ref a_ESCAPE), (.ref a_CANCEL), (.ref a_TERMINATE), (.ref a_YES), (.ref a_QUIT), (.ref a_PREVIOUS), (.ref a_NEXT), (.ref a_FIRST), (.ref a_LAST), (.ref a_MOST_WAITING), (.ref a_OTHER)]) (.object "com/example/locktop/locktop/view/Key") := A27.same W29
  have x29 : Ext h0 h29 := own_ext_wr x27 W29 j1
  have N29 := Fr.snoc X29 N27 (Nat.le_trans Z0 j1)
  refine own_go st29 ?_
  show own_G p e below _ T29 (mkF m 97 #[.val (.int i0), .unset, .unset, .unset, .unset] [(.ref a1)])
  refine own_go (fun t k => XS.astoreN X29.here hx rfl (hb hby at_97) rfl rfl (l' := #[.val (.int i0), .val (.ref a1), .unset, .unset, .unset]) rfl k) ?_
  show own_G p e below _ T29 (mkF m 98 #[.val (.int i0), .val (.ref a1), .unset, .unset, .unset] [])
  refine own_go (fun t k => XS.iloadN X29.here hx rfl (hb hby at_98) rfl k) ?_
  show own_G p e below _ T29 (mkF m 99 #[.val (.int i0), .val (.ref a1), .unset, .unset, .unset] [(.int i0)])
  refine own_go (X29.ldcInt hx hown (mvT hZ (hw _ (List.mem_of_getElem? (i := 32) rfl))) (g := (mkF m 99 #[.val (.int i0), .val (.ref a1), .unset, .unset, .unset] [(.int i0)])) rfl (hb hby at_99)) ?_
  show own_G p e below _ T29 (mkF m 101 #[.val (.int i0), .val (.ref a1), .unset, .unset, .unset] [(.int (2147483647 : Int32)), (.int i0)])
  refine own_go (fun t k => XS.iand X29.here hx rfl (hb hby at_101) rfl k) ?_
  show own_G p e below _ T29 (mkF m 102 #[.val (.int i0), .val (.ref a1), .unset, .unset, .unset] [(.int (i0 &&& (2147483647 : Int32)))])
  refine own_go (fun t k => XS.bipush X29.here hx rfl (hb hby at_102) k) ?_
  show own_G p e below _ T29 (mkF m 104 #[.val (.int i0), .val (.ref a1), .unset, .unset, .unset] [(.int (14 : Int32)), (.int (i0 &&& (2147483647 : Int32)))])
  refine own_go (fun t k => iremM X29 hx rfl (hb hby at_104) rfl (by decide) k) ?_
  show own_G p e below _ T29 (mkF m 105 #[.val (.int i0), .val (.ref a1), .unset, .unset, .unset] [(.int ((i0 &&& (2147483647 : Int32)) % (14 : Int32)))])
  rcases hk with hk30 | hk30 | hk30 | hk30 | hk30 | hk30 | hk30 | hk30 | hk30 | hk30 | hk30 | hk30 | hk30 | hk30
  · rw [hk30]
    show own_G p e below _ T29 (mkF m 105 #[.val (.int i0), .val (.ref a1), .unset, .unset, .unset] [(.int (0 : Int32))])
    refine own_go (fun t k => XS.istoreN X29.here hx rfl (hb hby at_105) rfl (l' := #[.val (.int i0), .val (.ref a1), .val (.int (0 : Int32)), .unset, .unset]) rfl k) ?_
    show own_G p e below _ T29 (mkF m 106 #[.val (.int i0), .val (.ref a1), .val (.int (0 : Int32)), .unset, .unset] [])
    refine own_go (fun t k => XS.aloadN X29.here hx rfl (hb hby at_106) rfl rfl k) ?_
    show own_G p e below _ T29 (mkF m 107 #[.val (.int i0), .val (.ref a1), .val (.int (0 : Int32)), .unset, .unset] [(.ref a1)])
    refine own_go (fun t k => XS.iloadN X29.here hx rfl (hb hby at_107) rfl k) ?_
    show own_G p e below _ T29 (mkF m 108 #[.val (.int i0), .val (.ref a1), .val (.int (0 : Int32)), .unset, .unset] [(.int (0 : Int32)), (.ref a1)])
    refine own_go (X29.aaload hx (j := (0 : Int32)) (v := (.ref a_UP)) (by rw [e29]; exact A29.1) (State.isArrayOf_alike hZ.alike A29.2.1) rfl A29.2.2 (own_in (n := 14) rfl (by decide)) rfl (g := (mkF m 108 #[.val (.int i0), .val (.ref a1), .val (.int (0 : Int32)), .unset, .unset] [(.int (0 : Int32)), (.ref a1)])) rfl rfl (hb hby at_108)) ?_
    show own_G p e below _ T29 (mkF m 109 #[.val (.int i0), .val (.ref a1), .val (.int (0 : Int32)), .unset, .unset] [(.ref a_UP)])
    refine own_go (fun t k => XS.astoreN X29.here hx rfl (hb hby at_109) rfl rfl (l' := #[.val (.int i0), .val (.ref a1), .val (.int (0 : Int32)), .val (.ref a_UP), .unset]) rfl k) ?_
    show own_G p e below _ T29 (mkF m 110 #[.val (.int i0), .val (.ref a1), .val (.int (0 : Int32)), .val (.ref a_UP), .unset] [])
    refine own_go (fun t k => XS.iloadN X29.here hx rfl (hb hby at_110) rfl k) ?_
    show own_G p e below _ T29 (mkF m 111 #[.val (.int i0), .val (.ref a1), .val (.int (0 : Int32)), .val (.ref a_UP), .unset] [(.int (0 : Int32))])
    refine own_go (fun t k => XS.bipush X29.here hx rfl (hb hby at_111) k) ?_
    show own_G p e below _ T29 (mkF m 113 #[.val (.int i0), .val (.ref a1), .val (.int (0 : Int32)), .val (.ref a_UP), .unset] [(.int (8 : Int32)), (.int (0 : Int32))])
    refine own_go (fun t k => XS.icmpYes X29.here hx rfl (pc0 := 113) (pc' := 126) rfl (hb hby at_113) rfl (by decide) (by decide) (by decide) k) ?_
    show own_G p e below _ T29 (mkF m 126 #[.val (.int i0), .val (.ref a1), .val (.int (0 : Int32)), .val (.ref a_UP), .unset] [])
    refine own_go (fun t k => XS.iconst X29.here hx rfl (hb hby at_126) k) ?_
    show own_G p e below _ T29 (mkF m 127 #[.val (.int i0), .val (.ref a1), .val (.int (0 : Int32)), .val (.ref a_UP), .unset] [(.int (0 : Int32))])
    refine own_go (fun t k => XS.istore X29.here hx rfl (hb hby at_127) rfl (l' := #[.val (.int i0), .val (.ref a1), .val (.int (0 : Int32)), .val (.ref a_UP), .val (.int (0 : Int32))]) rfl k) ?_
    show own_G p e below _ T29 (mkF m 129 #[.val (.int i0), .val (.ref a1), .val (.int (0 : Int32)), .val (.ref a_UP), .val (.int (0 : Int32))] [])
    refine own_go (fun t k => XS.aloadN X29.here hx rfl (hb hby at_129) rfl rfl k) ?_
    show own_G p e below _ T29 (mkF m 130 #[.val (.int i0), .val (.ref a1), .val (.int (0 : Int32)), .val (.ref a_UP), .val (.int (0 : Int32))] [(.ref a_UP)])
    obtain ⟨T31, L31, v31, X31, ⟨rfl, rfl, q31⟩, st31⟩ := own_callV X29 hx hZ (y := (⟨"com/example/locktop/locktop/view/Key", "steps", "()Z"⟩ : MethodName)) (z := (⟨"com/example/locktop/locktop/view/Key", "steps", "()Z"⟩ : MethodName)) hown (hw _ (List.mem_of_getElem? (i := 33) rfl)) (hw _ (List.mem_of_getElem? (i := 34) rfl)) (hw _ (List.mem_of_getElem? (i := 36) rfl)) (hw _ (List.mem_of_getElem? (i := 36) rfl)) (hw _ (List.mem_of_getElem? (i := 35) rfl)) (hw _ (List.mem_of_getElem? (i := 37) rfl)) (hw _ (List.mem_of_getElem? (i := 3) rfl)) (notFace_of_selects (args := #[]) (mvT hZ (hw _ (List.mem_of_getElem? (i := 36) rfl)))) (by decide) (c_steps l Z a0 hw a_UP a_DOWN a_ENTER a_ESCAPE a_CANCEL a_TERMINATE a_YES a_QUIT a_PREVIOUS a_NEXT a_FIRST a_LAST a_MOST_WAITING a_OTHER a_UP h29 (own_B_ext x29 B) ) e29 (E_UP.ext x29) (argsL := []) (rest := []) (g := (mkF m 130 #[.val (.int i0), .val (.ref a1), .val (.int (0 : Int32)), .val (.ref a_UP), .val (.int (0 : Int32))] [(.ref a_UP)])) rfl (by rw [hml]; rfl) (ps := []) (r := (some .boolean)) (by decide +kernel) rfl rfl (W := 0) (by show 2 * 0 + _ ≤ _; exact Nat.le_of_eq rfl) (hb hby at_130) (by decide) (by decide) (by decide) (by decide)
    have N31 := Fr.app N29 (Fr.nil n0)
    refine own_go st31 ?_
    show own_G p e below _ T31 (mkF m 133 #[.val (.int i0), .val (.ref a1), .val (.int (0 : Int32)), .val (.ref a_UP), .val (.int (0 : Int32))] [(.int (own_steps a_UP a_DOWN a_ENTER a_ESCAPE a_CANCEL a_TERMINATE a_YES a_QUIT a_PREVIOUS a_NEXT a_FIRST a_LAST a_MOST_WAITING a_OTHER a_UP))])
    have r31 : (own_steps a_UP a_DOWN a_ENTER a_ESCAPE a_CANCEL a_TERMINATE a_YES a_QUIT a_PREVIOUS a_NEXT a_FIRST a_LAST a_MOST_WAITING a_OTHER a_UP) = (0 : Int32) := by unfold own_steps; rw [if_neg (Fld.ne F_UP_ordinal F_PREVIOUS_ordinal (own_neV (by decide))), if_neg (Fld.ne F_UP_ordinal F_NEXT_ordinal (own_neV (by decide))), if_neg (Fld.ne F_UP_ordinal F_FIRST_ordinal (own_neV (by decide))), if_neg (Fld.ne F_UP_ordinal F_LAST_ordinal (own_neV (by decide))), if_neg (Fld.ne F_UP_ordinal F_MOST_WAITING_ordinal (own_neV (by decide)))]; rfl
    rw [r31]
    show own_G p e below _ T31 (mkF m 133 #[.val (.int i0), .val (.ref a1), .val (.int (0 : Int32)), .val (.ref a_UP), .val (.int (0 : Int32))] [(.int (0 : Int32))])
    refine own_go (fun t k => XS.iload X31.here hx rfl (hb hby at_133) rfl k) ?_
    show own_G p e below _ T31 (mkF m 135 #[.val (.int i0), .val (.ref a1), .val (.int (0 : Int32)), .val (.ref a_UP), .val (.int (0 : Int32))] [(.int (0 : Int32)), (.int (0 : Int32))])
    refine own_go (fun t k => XS.icmpNo X31.here hx rfl (hb hby at_135) rfl (by decide) k) ?_
    show own_G p e below _ T31 (mkF m 138 #[.val (.int i0), .val (.ref a1), .val (.int (0 : Int32)), .val (.ref a_UP), .val (.int (0 : Int32))] [])
    refine own_go (fun t k => XS.iconst X31.here hx rfl (hb hby at_138) k) ?_
    show own_G p e below _ T31 (mkF m 139 #[.val (.int i0), .val (.ref a1), .val (.int (0 : Int32)), .val (.ref a_UP), .val (.int (0 : Int32))] [(.int (1 : Int32))])
    refine own_go (fun t k => XS.goto X31.here hx rfl (pc0 := 139) (pc' := 143) rfl (hb hby at_139) (by decide) (by decide) k) ?_
    show own_G p e below _ T31 (mkF m 143 #[.val (.int i0), .val (.ref a1), .val (.int (0 : Int32)), .val (.ref a_UP), .val (.int (0 : Int32))] [(.int (1 : Int32))])
    exact own_retN X31 hx hlk hret (by simp) (hb hby at_143) (by decide) (by decide) ⟨rfl, N31⟩
  · rw [hk30]
    show own_G p e below _ T29 (mkF m 105 #[.val (.int i0), .val (.ref a1), .unset, .unset, .unset] [(.int (1 : Int32))])
    refine own_go (fun t k => XS.istoreN X29.here hx rfl (hb hby at_105) rfl (l' := #[.val (.int i0), .val (.ref a1), .val (.int (1 : Int32)), .unset, .unset]) rfl k) ?_
    show own_G p e below _ T29 (mkF m 106 #[.val (.int i0), .val (.ref a1), .val (.int (1 : Int32)), .unset, .unset] [])
    refine own_go (fun t k => XS.aloadN X29.here hx rfl (hb hby at_106) rfl rfl k) ?_
    show own_G p e below _ T29 (mkF m 107 #[.val (.int i0), .val (.ref a1), .val (.int (1 : Int32)), .unset, .unset] [(.ref a1)])
    refine own_go (fun t k => XS.iloadN X29.here hx rfl (hb hby at_107) rfl k) ?_
    show own_G p e below _ T29 (mkF m 108 #[.val (.int i0), .val (.ref a1), .val (.int (1 : Int32)), .unset, .unset] [(.int (1 : Int32)), (.ref a1)])
    refine own_go (X29.aaload hx (j := (1 : Int32)) (v := (.ref a_DOWN)) (by rw [e29]; exact A29.1) (State.isArrayOf_alike hZ.alike A29.2.1) rfl A29.2.2 (own_in (n := 14) rfl (by decide)) rfl (g := (mkF m 108 #[.val (.int i0), .val (.ref a1), .val (.int (1 : Int32)), .unset, .unset] [(.int (1 : Int32)), (.ref a1)])) rfl rfl (hb hby at_108)) ?_
    show own_G p e below _ T29 (mkF m 109 #[.val (.int i0), .val (.ref a1), .val (.int (1 : Int32)), .unset, .unset] [(.ref a_DOWN)])
    refine own_go (fun t k => XS.astoreN X29.here hx rfl (hb hby at_109) rfl rfl (l' := #[.val (.int i0), .val (.ref a1), .val (.int (1 : Int32)), .val (.ref a_DOWN), .unset]) rfl k) ?_
    show own_G p e below _ T29 (mkF m 110 #[.val (.int i0), .val (.ref a1), .val (.int (1 : Int32)), .val (.ref a_DOWN), .unset] [])
    refine own_go (fun t k => XS.iloadN X29.here hx rfl (hb hby at_110) rfl k) ?_
    show own_G p e below _ T29 (mkF m 111 #[.val (.int i0), .val (.ref a1), .val (.int (1 : Int32)), .val (.ref a_DOWN), .unset] [(.int (1 : Int32))])
    refine own_go (fun t k => XS.bipush X29.here hx rfl (hb hby at_111) k) ?_
    show own_G p e below _ T29 (mkF m 113 #[.val (.int i0), .val (.ref a1), .val (.int (1 : Int32)), .val (.ref a_DOWN), .unset] [(.int (8 : Int32)), (.int (1 : Int32))])
    refine own_go (fun t k => XS.icmpYes X29.here hx rfl (pc0 := 113) (pc' := 126) rfl (hb hby at_113) rfl (by decide) (by decide) (by decide) k) ?_
    show own_G p e below _ T29 (mkF m 126 #[.val (.int i0), .val (.ref a1), .val (.int (1 : Int32)), .val (.ref a_DOWN), .unset] [])
    refine own_go (fun t k => XS.iconst X29.here hx rfl (hb hby at_126) k) ?_
    show own_G p e below _ T29 (mkF m 127 #[.val (.int i0), .val (.ref a1), .val (.int (1 : Int32)), .val (.ref a_DOWN), .unset] [(.int (0 : Int32))])
    refine own_go (fun t k => XS.istore X29.here hx rfl (hb hby at_127) rfl (l' := #[.val (.int i0), .val (.ref a1), .val (.int (1 : Int32)), .val (.ref a_DOWN), .val (.int (0 : Int32))]) rfl k) ?_
    show own_G p e below _ T29 (mkF m 129 #[.val (.int i0), .val (.ref a1), .val (.int (1 : Int32)), .val (.ref a_DOWN), .val (.int (0 : Int32))] [])
    refine own_go (fun t k => XS.aloadN X29.here hx rfl (hb hby at_129) rfl rfl k) ?_
    show own_G p e below _ T29 (mkF m 130 #[.val (.int i0), .val (.ref a1), .val (.int (1 : Int32)), .val (.ref a_DOWN), .val (.int (0 : Int32))] [(.ref a_DOWN)])
    obtain ⟨T32, L32, v32, X32, ⟨rfl, rfl, q32⟩, st32⟩ := own_callV X29 hx hZ (y := (⟨"com/example/locktop/locktop/view/Key", "steps", "()Z"⟩ : MethodName)) (z := (⟨"com/example/locktop/locktop/view/Key", "steps", "()Z"⟩ : MethodName)) hown (hw _ (List.mem_of_getElem? (i := 33) rfl)) (hw _ (List.mem_of_getElem? (i := 34) rfl)) (hw _ (List.mem_of_getElem? (i := 36) rfl)) (hw _ (List.mem_of_getElem? (i := 36) rfl)) (hw _ (List.mem_of_getElem? (i := 35) rfl)) (hw _ (List.mem_of_getElem? (i := 37) rfl)) (hw _ (List.mem_of_getElem? (i := 3) rfl)) (notFace_of_selects (args := #[]) (mvT hZ (hw _ (List.mem_of_getElem? (i := 36) rfl)))) (by decide) (c_steps l Z a0 hw a_UP a_DOWN a_ENTER a_ESCAPE a_CANCEL a_TERMINATE a_YES a_QUIT a_PREVIOUS a_NEXT a_FIRST a_LAST a_MOST_WAITING a_OTHER a_DOWN h29 (own_B_ext x29 B) ) e29 (E_DOWN.ext x29) (argsL := []) (rest := []) (g := (mkF m 130 #[.val (.int i0), .val (.ref a1), .val (.int (1 : Int32)), .val (.ref a_DOWN), .val (.int (0 : Int32))] [(.ref a_DOWN)])) rfl (by rw [hml]; rfl) (ps := []) (r := (some .boolean)) (by decide +kernel) rfl rfl (W := 0) (by show 2 * 0 + _ ≤ _; exact Nat.le_of_eq rfl) (hb hby at_130) (by decide) (by decide) (by decide) (by decide)
    have N32 := Fr.app N29 (Fr.nil n0)
    refine own_go st32 ?_
    show own_G p e below _ T32 (mkF m 133 #[.val (.int i0), .val (.ref a1), .val (.int (1 : Int32)), .val (.ref a_DOWN), .val (.int (0 : Int32))] [(.int (own_steps a_UP a_DOWN a_ENTER a_ESCAPE a_CANCEL a_TERMINATE a_YES a_QUIT a_PREVIOUS a_NEXT a_FIRST a_LAST a_MOST_WAITING a_OTHER a_DOWN))])
    have r32 : (own_steps a_UP a_DOWN a_ENTER a_ESCAPE a_CANCEL a_TERMINATE a_YES a_QUIT a_PREVIOUS a_NEXT a_FIRST a_LAST a_MOST_WAITING a_OTHER a_DOWN) = (0 : Int32) := by unfold own_steps; rw [if_neg (Fld.ne F_DOWN_ordinal F_PREVIOUS_ordinal (own_neV (by decide))), if_neg (Fld.ne F_DOWN_ordinal F_NEXT_ordinal (own_neV (by decide))), if_neg (Fld.ne F_DOWN_ordinal F_FIRST_ordinal (own_neV (by decide))), if_neg (Fld.ne F_DOWN_ordinal F_LAST_ordinal (own_neV (by decide))), if_neg (Fld.ne F_DOWN_ordinal F_MOST_WAITING_ordinal (own_neV (by decide)))]; rfl
    rw [r32]
    show own_G p e below _ T32 (mkF m 133 #[.val (.int i0), .val (.ref a1), .val (.int (1 : Int32)), .val (.ref a_DOWN), .val (.int (0 : Int32))] [(.int (0 : Int32))])
    refine own_go (fun t k => XS.iload X32.here hx rfl (hb hby at_133) rfl k) ?_
    show own_G p e below _ T32 (mkF m 135 #[.val (.int i0), .val (.ref a1), .val (.int (1 : Int32)), .val (.ref a_DOWN), .val (.int (0 : Int32))] [(.int (0 : Int32)), (.int (0 : Int32))])
    refine own_go (fun t k => XS.icmpNo X32.here hx rfl (hb hby at_135) rfl (by decide) k) ?_
    show own_G p e below _ T32 (mkF m 138 #[.val (.int i0), .val (.ref a1), .val (.int (1 : Int32)), .val (.ref a_DOWN), .val (.int (0 : Int32))] [])
    refine own_go (fun t k => XS.iconst X32.here hx rfl (hb hby at_138) k) ?_
    show own_G p e below _ T32 (mkF m 139 #[.val (.int i0), .val (.ref a1), .val (.int (1 : Int32)), .val (.ref a_DOWN), .val (.int (0 : Int32))] [(.int (1 : Int32))])
    refine own_go (fun t k => XS.goto X32.here hx rfl (pc0 := 139) (pc' := 143) rfl (hb hby at_139) (by decide) (by decide) k) ?_
    show own_G p e below _ T32 (mkF m 143 #[.val (.int i0), .val (.ref a1), .val (.int (1 : Int32)), .val (.ref a_DOWN), .val (.int (0 : Int32))] [(.int (1 : Int32))])
    exact own_retN X32 hx hlk hret (by simp) (hb hby at_143) (by decide) (by decide) ⟨rfl, N32⟩
  · rw [hk30]
    show own_G p e below _ T29 (mkF m 105 #[.val (.int i0), .val (.ref a1), .unset, .unset, .unset] [(.int (2 : Int32))])
    refine own_go (fun t k => XS.istoreN X29.here hx rfl (hb hby at_105) rfl (l' := #[.val (.int i0), .val (.ref a1), .val (.int (2 : Int32)), .unset, .unset]) rfl k) ?_
    show own_G p e below _ T29 (mkF m 106 #[.val (.int i0), .val (.ref a1), .val (.int (2 : Int32)), .unset, .unset] [])
    refine own_go (fun t k => XS.aloadN X29.here hx rfl (hb hby at_106) rfl rfl k) ?_
    show own_G p e below _ T29 (mkF m 107 #[.val (.int i0), .val (.ref a1), .val (.int (2 : Int32)), .unset, .unset] [(.ref a1)])
    refine own_go (fun t k => XS.iloadN X29.here hx rfl (hb hby at_107) rfl k) ?_
    show own_G p e below _ T29 (mkF m 108 #[.val (.int i0), .val (.ref a1), .val (.int (2 : Int32)), .unset, .unset] [(.int (2 : Int32)), (.ref a1)])
    refine own_go (X29.aaload hx (j := (2 : Int32)) (v := (.ref a_ENTER)) (by rw [e29]; exact A29.1) (State.isArrayOf_alike hZ.alike A29.2.1) rfl A29.2.2 (own_in (n := 14) rfl (by decide)) rfl (g := (mkF m 108 #[.val (.int i0), .val (.ref a1), .val (.int (2 : Int32)), .unset, .unset] [(.int (2 : Int32)), (.ref a1)])) rfl rfl (hb hby at_108)) ?_
    show own_G p e below _ T29 (mkF m 109 #[.val (.int i0), .val (.ref a1), .val (.int (2 : Int32)), .unset, .unset] [(.ref a_ENTER)])
    refine own_go (fun t k => XS.astoreN X29.here hx rfl (hb hby at_109) rfl rfl (l' := #[.val (.int i0), .val (.ref a1), .val (.int (2 : Int32)), .val (.ref a_ENTER), .unset]) rfl k) ?_
    show own_G p e below _ T29 (mkF m 110 #[.val (.int i0), .val (.ref a1), .val (.int (2 : Int32)), .val (.ref a_ENTER), .unset] [])
    refine own_go (fun t k => XS.iloadN X29.here hx rfl (hb hby at_110) rfl k) ?_
    show own_G p e below _ T29 (mkF m 111 #[.val (.int i0), .val (.ref a1), .val (.int (2 : Int32)), .val (.ref a_ENTER), .unset] [(.int (2 : Int32))])
    refine own_go (fun t k => XS.bipush X29.here hx rfl (hb hby at_111) k) ?_
    show own_G p e below _ T29 (mkF m 113 #[.val (.int i0), .val (.ref a1), .val (.int (2 : Int32)), .val (.ref a_ENTER), .unset] [(.int (8 : Int32)), (.int (2 : Int32))])
    refine own_go (fun t k => XS.icmpYes X29.here hx rfl (pc0 := 113) (pc' := 126) rfl (hb hby at_113) rfl (by decide) (by decide) (by decide) k) ?_
    show own_G p e below _ T29 (mkF m 126 #[.val (.int i0), .val (.ref a1), .val (.int (2 : Int32)), .val (.ref a_ENTER), .unset] [])
    refine own_go (fun t k => XS.iconst X29.here hx rfl (hb hby at_126) k) ?_
    show own_G p e below _ T29 (mkF m 127 #[.val (.int i0), .val (.ref a1), .val (.int (2 : Int32)), .val (.ref a_ENTER), .unset] [(.int (0 : Int32))])
    refine own_go (fun t k => XS.istore X29.here hx rfl (hb hby at_127) rfl (l' := #[.val (.int i0), .val (.ref a1), .val (.int (2 : Int32)), .val (.ref a_ENTER), .val (.int (0 : Int32))]) rfl k) ?_
    show own_G p e below _ T29 (mkF m 129 #[.val (.int i0), .val (.ref a1), .val (.int (2 : Int32)), .val (.ref a_ENTER), .val (.int (0 : Int32))] [])
    refine own_go (fun t k => XS.aloadN X29.here hx rfl (hb hby at_129) rfl rfl k) ?_
    show own_G p e below _ T29 (mkF m 130 #[.val (.int i0), .val (.ref a1), .val (.int (2 : Int32)), .val (.ref a_ENTER), .val (.int (0 : Int32))] [(.ref a_ENTER)])
    obtain ⟨T33, L33, v33, X33, ⟨rfl, rfl, q33⟩, st33⟩ := own_callV X29 hx hZ (y := (⟨"com/example/locktop/locktop/view/Key", "steps", "()Z"⟩ : MethodName)) (z := (⟨"com/example/locktop/locktop/view/Key", "steps", "()Z"⟩ : MethodName)) hown (hw _ (List.mem_of_getElem? (i := 33) rfl)) (hw _ (List.mem_of_getElem? (i := 34) rfl)) (hw _ (List.mem_of_getElem? (i := 36) rfl)) (hw _ (List.mem_of_getElem? (i := 36) rfl)) (hw _ (List.mem_of_getElem? (i := 35) rfl)) (hw _ (List.mem_of_getElem? (i := 37) rfl)) (hw _ (List.mem_of_getElem? (i := 3) rfl)) (notFace_of_selects (args := #[]) (mvT hZ (hw _ (List.mem_of_getElem? (i := 36) rfl)))) (by decide) (c_steps l Z a0 hw a_UP a_DOWN a_ENTER a_ESCAPE a_CANCEL a_TERMINATE a_YES a_QUIT a_PREVIOUS a_NEXT a_FIRST a_LAST a_MOST_WAITING a_OTHER a_ENTER h29 (own_B_ext x29 B) ) e29 (E_ENTER.ext x29) (argsL := []) (rest := []) (g := (mkF m 130 #[.val (.int i0), .val (.ref a1), .val (.int (2 : Int32)), .val (.ref a_ENTER), .val (.int (0 : Int32))] [(.ref a_ENTER)])) rfl (by rw [hml]; rfl) (ps := []) (r := (some .boolean)) (by decide +kernel) rfl rfl (W := 0) (by show 2 * 0 + _ ≤ _; exact Nat.le_of_eq rfl) (hb hby at_130) (by decide) (by decide) (by decide) (by decide)
    have N33 := Fr.app N29 (Fr.nil n0)
    refine own_go st33 ?_
    show own_G p e below _ T33 (mkF m 133 #[.val (.int i0), .val (.ref a1), .val (.int (2 : Int32)), .val (.ref a_ENTER), .val (.int (0 : Int32))] [(.int (own_steps a_UP a_DOWN a_ENTER a_ESCAPE a_CANCEL a_TERMINATE a_YES a_QUIT a_PREVIOUS a_NEXT a_FIRST a_LAST a_MOST_WAITING a_OTHER a_ENTER))])
    have r33 : (own_steps a_UP a_DOWN a_ENTER a_ESCAPE a_CANCEL a_TERMINATE a_YES a_QUIT a_PREVIOUS a_NEXT a_FIRST a_LAST a_MOST_WAITING a_OTHER a_ENTER) = (0 : Int32) := by unfold own_steps; rw [if_neg (Fld.ne F_ENTER_ordinal F_PREVIOUS_ordinal (own_neV (by decide))), if_neg (Fld.ne F_ENTER_ordinal F_NEXT_ordinal (own_neV (by decide))), if_neg (Fld.ne F_ENTER_ordinal F_FIRST_ordinal (own_neV (by decide))), if_neg (Fld.ne F_ENTER_ordinal F_LAST_ordinal (own_neV (by decide))), if_neg (Fld.ne F_ENTER_ordinal F_MOST_WAITING_ordinal (own_neV (by decide)))]; rfl
    rw [r33]
    show own_G p e below _ T33 (mkF m 133 #[.val (.int i0), .val (.ref a1), .val (.int (2 : Int32)), .val (.ref a_ENTER), .val (.int (0 : Int32))] [(.int (0 : Int32))])
    refine own_go (fun t k => XS.iload X33.here hx rfl (hb hby at_133) rfl k) ?_
    show own_G p e below _ T33 (mkF m 135 #[.val (.int i0), .val (.ref a1), .val (.int (2 : Int32)), .val (.ref a_ENTER), .val (.int (0 : Int32))] [(.int (0 : Int32)), (.int (0 : Int32))])
    refine own_go (fun t k => XS.icmpNo X33.here hx rfl (hb hby at_135) rfl (by decide) k) ?_
    show own_G p e below _ T33 (mkF m 138 #[.val (.int i0), .val (.ref a1), .val (.int (2 : Int32)), .val (.ref a_ENTER), .val (.int (0 : Int32))] [])
    refine own_go (fun t k => XS.iconst X33.here hx rfl (hb hby at_138) k) ?_
    show own_G p e below _ T33 (mkF m 139 #[.val (.int i0), .val (.ref a1), .val (.int (2 : Int32)), .val (.ref a_ENTER), .val (.int (0 : Int32))] [(.int (1 : Int32))])
    refine own_go (fun t k => XS.goto X33.here hx rfl (pc0 := 139) (pc' := 143) rfl (hb hby at_139) (by decide) (by decide) k) ?_
    show own_G p e below _ T33 (mkF m 143 #[.val (.int i0), .val (.ref a1), .val (.int (2 : Int32)), .val (.ref a_ENTER), .val (.int (0 : Int32))] [(.int (1 : Int32))])
    exact own_retN X33 hx hlk hret (by simp) (hb hby at_143) (by decide) (by decide) ⟨rfl, N33⟩
  · rw [hk30]
    show own_G p e below _ T29 (mkF m 105 #[.val (.int i0), .val (.ref a1), .unset, .unset, .unset] [(.int (3 : Int32))])
    refine own_go (fun t k => XS.istoreN X29.here hx rfl (hb hby at_105) rfl (l' := #[.val (.int i0), .val (.ref a1), .val (.int (3 : Int32)), .unset, .unset]) rfl k) ?_
    show own_G p e below _ T29 (mkF m 106 #[.val (.int i0), .val (.ref a1), .val (.int (3 : Int32)), .unset, .unset] [])
    refine own_go (fun t k => XS.aloadN X29.here hx rfl (hb hby at_106) rfl rfl k) ?_
    show own_G p e below _ T29 (mkF m 107 #[.val (.int i0), .val (.ref a1), .val (.int (3 : Int32)), .unset, .unset] [(.ref a1)])
    refine own_go (fun t k => XS.iloadN X29.here hx rfl (hb hby at_107) rfl k) ?_
    show own_G p e below _ T29 (mkF m 108 #[.val (.int i0), .val (.ref a1), .val (.int (3 : Int32)), .unset, .unset] [(.int (3 : Int32)), (.ref a1)])
    refine own_go (X29.aaload hx (j := (3 : Int32)) (v := (.ref a_ESCAPE)) (by rw [e29]; exact A29.1) (State.isArrayOf_alike hZ.alike A29.2.1) rfl A29.2.2 (own_in (n := 14) rfl (by decide)) rfl (g := (mkF m 108 #[.val (.int i0), .val (.ref a1), .val (.int (3 : Int32)), .unset, .unset] [(.int (3 : Int32)), (.ref a1)])) rfl rfl (hb hby at_108)) ?_
    show own_G p e below _ T29 (mkF m 109 #[.val (.int i0), .val (.ref a1), .val (.int (3 : Int32)), .unset, .unset] [(.ref a_ESCAPE)])
    refine own_go (fun t k => XS.astoreN X29.here hx rfl (hb hby at_109) rfl rfl (l' := #[.val (.int i0), .val (.ref a1), .val (.int (3 : Int32)), .val (.ref a_ESCAPE), .unset]) rfl k) ?_
    show own_G p e below _ T29 (mkF m 110 #[.val (.int i0), .val (.ref a1), .val (.int (3 : Int32)), .val (.ref a_ESCAPE), .unset] [])
    refine own_go (fun t k => XS.iloadN X29.here hx rfl (hb hby at_110) rfl k) ?_
    show own_G p e below _ T29 (mkF m 111 #[.val (.int i0), .val (.ref a1), .val (.int (3 : Int32)), .val (.ref a_ESCAPE), .unset] [(.int (3 : Int32))])
    refine own_go (fun t k => XS.bipush X29.here hx rfl (hb hby at_111) k) ?_
    show own_G p e below _ T29 (mkF m 113 #[.val (.int i0), .val (.ref a1), .val (.int (3 : Int32)), .val (.ref a_ESCAPE), .unset] [(.int (8 : Int32)), (.int (3 : Int32))])
    refine own_go (fun t k => XS.icmpYes X29.here hx rfl (pc0 := 113) (pc' := 126) rfl (hb hby at_113) rfl (by decide) (by decide) (by decide) k) ?_
    show own_G p e below _ T29 (mkF m 126 #[.val (.int i0), .val (.ref a1), .val (.int (3 : Int32)), .val (.ref a_ESCAPE), .unset] [])
    refine own_go (fun t k => XS.iconst X29.here hx rfl (hb hby at_126) k) ?_
    show own_G p e below _ T29 (mkF m 127 #[.val (.int i0), .val (.ref a1), .val (.int (3 : Int32)), .val (.ref a_ESCAPE), .unset] [(.int (0 : Int32))])
    refine own_go (fun t k => XS.istore X29.here hx rfl (hb hby at_127) rfl (l' := #[.val (.int i0), .val (.ref a1), .val (.int (3 : Int32)), .val (.ref a_ESCAPE), .val (.int (0 : Int32))]) rfl k) ?_
    show own_G p e below _ T29 (mkF m 129 #[.val (.int i0), .val (.ref a1), .val (.int (3 : Int32)), .val (.ref a_ESCAPE), .val (.int (0 : Int32))] [])
    refine own_go (fun t k => XS.aloadN X29.here hx rfl (hb hby at_129) rfl rfl k) ?_
    show own_G p e below _ T29 (mkF m 130 #[.val (.int i0), .val (.ref a1), .val (.int (3 : Int32)), .val (.ref a_ESCAPE), .val (.int (0 : Int32))] [(.ref a_ESCAPE)])
    obtain ⟨T34, L34, v34, X34, ⟨rfl, rfl, q34⟩, st34⟩ := own_callV X29 hx hZ (y := (⟨"com/example/locktop/locktop/view/Key", "steps", "()Z"⟩ : MethodName)) (z := (⟨"com/example/locktop/locktop/view/Key", "steps", "()Z"⟩ : MethodName)) hown (hw _ (List.mem_of_getElem? (i := 33) rfl)) (hw _ (List.mem_of_getElem? (i := 34) rfl)) (hw _ (List.mem_of_getElem? (i := 36) rfl)) (hw _ (List.mem_of_getElem? (i := 36) rfl)) (hw _ (List.mem_of_getElem? (i := 35) rfl)) (hw _ (List.mem_of_getElem? (i := 37) rfl)) (hw _ (List.mem_of_getElem? (i := 3) rfl)) (notFace_of_selects (args := #[]) (mvT hZ (hw _ (List.mem_of_getElem? (i := 36) rfl)))) (by decide) (c_steps l Z a0 hw a_UP a_DOWN a_ENTER a_ESCAPE a_CANCEL a_TERMINATE a_YES a_QUIT a_PREVIOUS a_NEXT a_FIRST a_LAST a_MOST_WAITING a_OTHER a_ESCAPE h29 (own_B_ext x29 B) ) e29 (E_ESCAPE.ext x29) (argsL := []) (rest := []) (g := (mkF m 130 #[.val (.int i0), .val (.ref a1), .val (.int (3 : Int32)), .val (.ref a_ESCAPE), .val (.int (0 : Int32))] [(.ref a_ESCAPE)])) rfl (by rw [hml]; rfl) (ps := []) (r := (some .boolean)) (by decide +kernel) rfl rfl (W := 0) (by show 2 * 0 + _ ≤ _; exact Nat.le_of_eq rfl) (hb hby at_130) (by decide) (by decide) (by decide) (by decide)
    have N34 := Fr.app N29 (Fr.nil n0)
    refine own_go st34 ?_
    show own_G p e below _ T34 (mkF m 133 #[.val (.int i0), .val (.ref a1), .val (.int (3 : Int32)), .val (.ref a_ESCAPE), .val (.int (0 : Int32))] [(.int (own_steps a_UP a_DOWN a_ENTER a_ESCAPE a_CANCEL a_TERMINATE a_YES a_QUIT a_PREVIOUS a_NEXT a_FIRST a_LAST a_MOST_WAITING a_OTHER a_ESCAPE))])
    have r34 : (own_steps a_UP a_DOWN a_ENTER a_ESCAPE a_CANCEL a_TERMINATE a_YES a_QUIT a_PREVIOUS a_NEXT a_FIRST a_LAST a_MOST_WAITING a_OTHER a_ESCAPE) = (0 : Int32) := by unfold own_steps; rw [if_neg (Fld.ne F_ESCAPE_ordinal F_PREVIOUS_ordinal (own_neV (by decide))), if_neg (Fld.ne F_ESCAPE_ordinal F_NEXT_ordinal (own_neV (by decide))), if_neg (Fld.ne F_ESCAPE_ordinal F_FIRST_ordinal (own_neV (by decide))), if_neg (Fld.ne F_ESCAPE_ordinal F_LAST_ordinal (own_neV (by decide))), if_neg (Fld.ne F_ESCAPE_ordinal F_MOST_WAITING_ordinal (own_neV (by decide)))]; rfl
    rw [r34]
    show own_G p e below _ T34 (mkF m 133 #[.val (.int i0), .val (.ref a1), .val (.int (3 : Int32)), .val (.ref a_ESCAPE), .val (.int (0 : Int32))] [(.int (0 : Int32))])
    refine own_go (fun t k => XS.iload X34.here hx rfl (hb hby at_133) rfl k) ?_
    show own_G p e below _ T34 (mkF m 135 #[.val (.int i0), .val (.ref a1), .val (.int (3 : Int32)), .val (.ref a_ESCAPE), .val (.int (0 : Int32))] [(.int (0 : Int32)), (.int (0 : Int32))])
    refine own_go (fun t k => XS.icmpNo X34.here hx rfl (hb hby at_135) rfl (by decide) k) ?_
    show own_G p e below _ T34 (mkF m 138 #[.val (.int i0), .val (.ref a1), .val (.int (3 : Int32)), .val (.ref a_ESCAPE), .val (.int (0 : Int32))] [])
    refine own_go (fun t k => XS.iconst X34.here hx rfl (hb hby at_138) k) ?_
    show own_G p e below _ T34 (mkF m 139 #[.val (.int i0), .val (.ref a1), .val (.int (3 : Int32)), .val (.ref a_ESCAPE), .val (.int (0 : Int32))] [(.int (1 : Int32))])
    refine own_go (fun t k => XS.goto X34.here hx rfl (pc0 := 139) (pc' := 143) rfl (hb hby at_139) (by decide) (by decide) k) ?_
    show own_G p e below _ T34 (mkF m 143 #[.val (.int i0), .val (.ref a1), .val (.int (3 : Int32)), .val (.ref a_ESCAPE), .val (.int (0 : Int32))] [(.int (1 : Int32))])
    exact own_retN X34 hx hlk hret (by simp) (hb hby at_143) (by decide) (by decide) ⟨rfl, N34⟩
  · rw [hk30]
    show own_G p e below _ T29 (mkF m 105 #[.val (.int i0), .val (.ref a1), .unset, .unset, .unset] [(.int (4 : Int32))])
    refine own_go (fun t k => XS.istoreN X29.here hx rfl (hb hby at_105) rfl (l' := #[.val (.int i0), .val (.ref a1), .val (.int (4 : Int32)), .unset, .unset]) rfl k) ?_
    show own_G p e below _ T29 (mkF m 106 #[.val (.int i0), .val (.ref a1), .val (.int (4 : Int32)), .unset, .unset] [])
    refine own_go (fun t k => XS.aloadN X29.here hx rfl (hb hby at_106) rfl rfl k) ?_
    show own_G p e below _ T29 (mkF m 107 #[.val (.int i0), .val (.ref a1), .val (.int (4 : Int32)), .unset, .unset] [(.ref a1)])
    refine own_go (fun t k => XS.iloadN X29.here hx rfl (hb hby at_107) rfl k) ?_
    show own_G p e below _ T29 (mkF m 108 #[.val (.int i0), .val (.ref a1), .val (.int (4 : Int32)), .unset, .unset] [(.int (4 : Int32)), (.ref a1)])
    refine own_go (X29.aaload hx (j := (4 : Int32)) (v := (.ref a_CANCEL)) (by rw [e29]; exact A29.1) (State.isArrayOf_alike hZ.alike A29.2.1) rfl A29.2.2 (own_in (n := 14) rfl (by decide)) rfl (g := (mkF m 108 #[.val (.int i0), .val (.ref a1), .val (.int (4 : Int32)), .unset, .unset] [(.int (4 : Int32)), (.ref a1)])) rfl rfl (hb hby at_108)) ?_
    show own_G p e below _ T29 (mkF m 109 #[.val (.int i0), .val (.ref a1), .val (.int (4 : Int32)), .unset, .unset] [(.ref a_CANCEL)])
    refine own_go (fun t k => XS.astoreN X29.here hx rfl (hb hby at_109) rfl rfl (l' := #[.val (.int i0), .val (.ref a1), .val (.int (4 : Int32)), .val (.ref a_CANCEL), .unset]) rfl k) ?_
    show own_G p e below _ T29 (mkF m 110 #[.val (.int i0), .val (.ref a1), .val (.int (4 : Int32)), .val (.ref a_CANCEL), .unset] [])
    refine own_go (fun t k => XS.iloadN X29.here hx rfl (hb hby at_110) rfl k) ?_
    show own_G p e below _ T29 (mkF m 111 #[.val (.int i0), .val (.ref a1), .val (.int (4 : Int32)), .val (.ref a_CANCEL), .unset] [(.int (4 : Int32))])
    refine own_go (fun t k => XS.bipush X29.here hx rfl (hb hby at_111) k) ?_
    show own_G p e below _ T29 (mkF m 113 #[.val (.int i0), .val (.ref a1), .val (.int (4 : Int32)), .val (.ref a_CANCEL), .unset] [(.int (8 : Int32)), (.int (4 : Int32))])
    refine own_go (fun t k => XS.icmpYes X29.here hx rfl (pc0 := 113) (pc' := 126) rfl (hb hby at_113) rfl (by decide) (by decide) (by decide) k) ?_
    show own_G p e below _ T29 (mkF m 126 #[.val (.int i0), .val (.ref a1), .val (.int (4 : Int32)), .val (.ref a_CANCEL), .unset] [])
    refine own_go (fun t k => XS.iconst X29.here hx rfl (hb hby at_126) k) ?_
    show own_G p e below _ T29 (mkF m 127 #[.val (.int i0), .val (.ref a1), .val (.int (4 : Int32)), .val (.ref a_CANCEL), .unset] [(.int (0 : Int32))])
    refine own_go (fun t k => XS.istore X29.here hx rfl (hb hby at_127) rfl (l' := #[.val (.int i0), .val (.ref a1), .val (.int (4 : Int32)), .val (.ref a_CANCEL), .val (.int (0 : Int32))]) rfl k) ?_
    show own_G p e below _ T29 (mkF m 129 #[.val (.int i0), .val (.ref a1), .val (.int (4 : Int32)), .val (.ref a_CANCEL), .val (.int (0 : Int32))] [])
    refine own_go (fun t k => XS.aloadN X29.here hx rfl (hb hby at_129) rfl rfl k) ?_
    show own_G p e below _ T29 (mkF m 130 #[.val (.int i0), .val (.ref a1), .val (.int (4 : Int32)), .val (.ref a_CANCEL), .val (.int (0 : Int32))] [(.ref a_CANCEL)])
    obtain ⟨T35, L35, v35, X35, ⟨rfl, rfl, q35⟩, st35⟩ := own_callV X29 hx hZ (y := (⟨"com/example/locktop/locktop/view/Key", "steps", "()Z"⟩ : MethodName)) (z := (⟨"com/example/locktop/locktop/view/Key", "steps", "()Z"⟩ : MethodName)) hown (hw _ (List.mem_of_getElem? (i := 33) rfl)) (hw _ (List.mem_of_getElem? (i := 34) rfl)) (hw _ (List.mem_of_getElem? (i := 36) rfl)) (hw _ (List.mem_of_getElem? (i := 36) rfl)) (hw _ (List.mem_of_getElem? (i := 35) rfl)) (hw _ (List.mem_of_getElem? (i := 37) rfl)) (hw _ (List.mem_of_getElem? (i := 3) rfl)) (notFace_of_selects (args := #[]) (mvT hZ (hw _ (List.mem_of_getElem? (i := 36) rfl)))) (by decide) (c_steps l Z a0 hw a_UP a_DOWN a_ENTER a_ESCAPE a_CANCEL a_TERMINATE a_YES a_QUIT a_PREVIOUS a_NEXT a_FIRST a_LAST a_MOST_WAITING a_OTHER a_CANCEL h29 (own_B_ext x29 B) ) e29 (E_CANCEL.ext x29) (argsL := []) (rest := []) (g := (mkF m 130 #[.val (.int i0), .val (.ref a1), .val (.int (4 : Int32)), .val (.ref a_CANCEL), .val (.int (0 : Int32))] [(.ref a_CANCEL)])) rfl (by rw [hml]; rfl) (ps := []) (r := (some .boolean)) (by decide +kernel) rfl rfl (W := 0) (by show 2 * 0 + _ ≤ _; exact Nat.le_of_eq rfl) (hb hby at_130) (by decide) (by decide) (by decide) (by decide)
    have N35 := Fr.app N29 (Fr.nil n0)
    refine own_go st35 ?_
    show own_G p e below _ T35 (mkF m 133 #[.val (.int i0), .val (.ref a1), .val (.int (4 : Int32)), .val (.ref a_CANCEL), .val (.int (0 : Int32))] [(.int (own_steps a_UP a_DOWN a_ENTER a_ESCAPE a_CANCEL a_TERMINATE a_YES a_QUIT a_PREVIOUS a_NEXT a_FIRST a_LAST a_MOST_WAITING a_OTHER a_CANCEL))])
    have r35 : (own_steps a_UP a_DOWN a_ENTER a_ESCAPE a_CANCEL a_TERMINATE a_YES a_QUIT a_PREVIOUS a_NEXT a_FIRST a_LAST a_MOST_WAITING a_OTHER a_CANCEL) = (0 : Int32) := by unfold own_steps; rw [if_neg (Fld.ne F_CANCEL_ordinal F_PREVIOUS_ordinal (own_neV (by decide))), if_neg (Fld.ne F_CANCEL_ordinal F_NEXT_ordinal (own_neV (by decide))), if_neg (Fld.ne F_CANCEL_ordinal F_FIRST_ordinal (own_neV (by decide))), if_neg (Fld.ne F_CANCEL_ordinal F_LAST_ordinal (own_neV (by decide))), if_neg (Fld.ne F_CANCEL_ordinal F_MOST_WAITING_ordinal (own_neV (by decide)))]; rfl
    rw [r35]
    show own_G p e below _ T35 (mkF m 133 #[.val (.int i0), .val (.ref a1), .val (.int (4 : Int32)), .val (.ref a_CANCEL), .val (.int (0 : Int32))] [(.int (0 : Int32))])
    refine own_go (fun t k => XS.iload X35.here hx rfl (hb hby at_133) rfl k) ?_
    show own_G p e below _ T35 (mkF m 135 #[.val (.int i0), .val (.ref a1), .val (.int (4 : Int32)), .val (.ref a_CANCEL), .val (.int (0 : Int32))] [(.int (0 : Int32)), (.int (0 : Int32))])
    refine own_go (fun t k => XS.icmpNo X35.here hx rfl (hb hby at_135) rfl (by decide) k) ?_
    show own_G p e below _ T35 (mkF m 138 #[.val (.int i0), .val (.ref a1), .val (.int (4 : Int32)), .val (.ref a_CANCEL), .val (.int (0 : Int32))] [])
    refine own_go (fun t k => XS.iconst X35.here hx rfl (hb hby at_138) k) ?_
    show own_G p e below _ T35 (mkF m 139 #[.val (.int i0), .val (.ref a1), .val (.int (4 : Int32)), .val (.ref a_CANCEL), .val (.int (0 : Int32))] [(.int (1 : Int32))])
    refine own_go (fun t k => XS.goto X35.here hx rfl (pc0 := 139) (pc' := 143) rfl (hb hby at_139) (by decide) (by decide) k) ?_
    show own_G p e below _ T35 (mkF m 143 #[.val (.int i0), .val (.ref a1), .val (.int (4 : Int32)), .val (.ref a_CANCEL), .val (.int (0 : Int32))] [(.int (1 : Int32))])
    exact own_retN X35 hx hlk hret (by simp) (hb hby at_143) (by decide) (by decide) ⟨rfl, N35⟩
  · rw [hk30]
    show own_G p e below _ T29 (mkF m 105 #[.val (.int i0), .val (.ref a1), .unset, .unset, .unset] [(.int (5 : Int32))])
    refine own_go (fun t k => XS.istoreN X29.here hx rfl (hb hby at_105) rfl (l' := #[.val (.int i0), .val (.ref a1), .val (.int (5 : Int32)), .unset, .unset]) rfl k) ?_
    show own_G p e below _ T29 (mkF m 106 #[.val (.int i0), .val (.ref a1), .val (.int (5 : Int32)), .unset, .unset] [])
    refine own_go (fun t k => XS.aloadN X29.here hx rfl (hb hby at_106) rfl rfl k) ?_
    show own_G p e below _ T29 (mkF m 107 #[.val (.int i0), .val (.ref a1), .val (.int (5 : Int32)), .unset, .unset] [(.ref a1)])
    refine own_go (fun t k => XS.iloadN X29.here hx rfl (hb hby at_107) rfl k) ?_
    show own_G p e below _ T29 (mkF m 108 #[.val (.int i0), .val (.ref a1), .val (.int (5 : Int32)), .unset, .unset] [(.int (5 : Int32)), (.ref a1)])
    refine own_go (X29.aaload hx (j := (5 : Int32)) (v := (.ref a_TERMINATE)) (by rw [e29]; exact A29.1) (State.isArrayOf_alike hZ.alike A29.2.1) rfl A29.2.2 (own_in (n := 14) rfl (by decide)) rfl (g := (mkF m 108 #[.val (.int i0), .val (.ref a1), .val (.int (5 : Int32)), .unset, .unset] [(.int (5 : Int32)), (.ref a1)])) rfl rfl (hb hby at_108)) ?_
    show own_G p e below _ T29 (mkF m 109 #[.val (.int i0), .val (.ref a1), .val (.int (5 : Int32)), .unset, .unset] [(.ref a_TERMINATE)])
    refine own_go (fun t k => XS.astoreN X29.here hx rfl (hb hby at_109) rfl rfl (l' := #[.val (.int i0), .val (.ref a1), .val (.int (5 : Int32)), .val (.ref a_TERMINATE), .unset]) rfl k) ?_
    show own_G p e below _ T29 (mkF m 110 #[.val (.int i0), .val (.ref a1), .val (.int (5 : Int32)), .val (.ref a_TERMINATE), .unset] [])
    refine own_go (fun t k => XS.iloadN X29.here hx rfl (hb hby at_110) rfl k) ?_
    show own_G p e below _ T29 (mkF m 111 #[.val (.int i0), .val (.ref a1), .val (.int (5 : Int32)), .val (.ref a_TERMINATE), .unset] [(.int (5 : Int32))])
    refine own_go (fun t k => XS.bipush X29.here hx rfl (hb hby at_111) k) ?_
    show own_G p e below _ T29 (mkF m 113 #[.val (.int i0), .val (.ref a1), .val (.int (5 : Int32)), .val (.ref a_TERMINATE), .unset] [(.int (8 : Int32)), (.int (5 : Int32))])
    refine own_go (fun t k => XS.icmpYes X29.here hx rfl (pc0 := 113) (pc' := 126) rfl (hb hby at_113) rfl (by decide) (by decide) (by decide) k) ?_
    show own_G p e below _ T29 (mkF m 126 #[.val (.int i0), .val (.ref a1), .val (.int (5 : Int32)), .val (.ref a_TERMINATE), .unset] [])
    refine own_go (fun t k => XS.iconst X29.here hx rfl (hb hby at_126) k) ?_
    show own_G p e below _ T29 (mkF m 127 #[.val (.int i0), .val (.ref a1), .val (.int (5 : Int32)), .val (.ref a_TERMINATE), .unset] [(.int (0 : Int32))])
    refine own_go (fun t k => XS.istore X29.here hx rfl (hb hby at_127) rfl (l' := #[.val (.int i0), .val (.ref a1), .val (.int (5 : Int32)), .val (.ref a_TERMINATE), .val (.int (0 : Int32))]) rfl k) ?_
    show own_G p e below _ T29 (mkF m 129 #[.val (.int i0), .val (.ref a1), .val (.int (5 : Int32)), .val (.ref a_TERMINATE), .val (.int (0 : Int32))] [])
    refine own_go (fun t k => XS.aloadN X29.here hx rfl (hb hby at_129) rfl rfl k) ?_
    show own_G p e below _ T29 (mkF m 130 #[.val (.int i0), .val (.ref a1), .val (.int (5 : Int32)), .val (.ref a_TERMINATE), .val (.int (0 : Int32))] [(.ref a_TERMINATE)])
    obtain ⟨T36, L36, v36, X36, ⟨rfl, rfl, q36⟩, st36⟩ := own_callV X29 hx hZ (y := (⟨"com/example/locktop/locktop/view/Key", "steps", "()Z"⟩ : MethodName)) (z := (⟨"com/example/locktop/locktop/view/Key", "steps", "()Z"⟩ : MethodName)) hown (hw _ (List.mem_of_getElem? (i := 33) rfl)) (hw _ (List.mem_of_getElem? (i := 34) rfl)) (hw _ (List.mem_of_getElem? (i := 36) rfl)) (hw _ (List.mem_of_getElem? (i := 36) rfl)) (hw _ (List.mem_of_getElem? (i := 35) rfl)) (hw _ (List.mem_of_getElem? (i := 37) rfl)) (hw _ (List.mem_of_getElem? (i := 3) rfl)) (notFace_of_selects (args := #[]) (mvT hZ (hw _ (List.mem_of_getElem? (i := 36) rfl)))) (by decide) (c_steps l Z a0 hw a_UP a_DOWN a_ENTER a_ESCAPE a_CANCEL a_TERMINATE a_YES a_QUIT a_PREVIOUS a_NEXT a_FIRST a_LAST a_MOST_WAITING a_OTHER a_TERMINATE h29 (own_B_ext x29 B) ) e29 (E_TERMINATE.ext x29) (argsL := []) (rest := []) (g := (mkF m 130 #[.val (.int i0), .val (.ref a1), .val (.int (5 : Int32)), .val (.ref a_TERMINATE), .val (.int (0 : Int32))] [(.ref a_TERMINATE)])) rfl (by rw [hml]; rfl) (ps := []) (r := (some .boolean)) (by decide +kernel) rfl rfl (W := 0) (by show 2 * 0 + _ ≤ _; exact Nat.le_of_eq rfl) (hb hby at_130) (by decide) (by decide) (by decide) (by decide)
    have N36 := Fr.app N29 (Fr.nil n0)
    refine own_go st36 ?_
    show own_G p e below _ T36 (mkF m 133 #[.val (.int i0), .val (.ref a1), .val (.int (5 : Int32)), .val (.ref a_TERMINATE), .val (.int (0 : Int32))] [(.int (own_steps a_UP a_DOWN a_ENTER a_ESCAPE a_CANCEL a_TERMINATE a_YES a_QUIT a_PREVIOUS a_NEXT a_FIRST a_LAST a_MOST_WAITING a_OTHER a_TERMINATE))])
    have r36 : (own_steps a_UP a_DOWN a_ENTER a_ESCAPE a_CANCEL a_TERMINATE a_YES a_QUIT a_PREVIOUS a_NEXT a_FIRST a_LAST a_MOST_WAITING a_OTHER a_TERMINATE) = (0 : Int32) := by unfold own_steps; rw [if_neg (Fld.ne F_TERMINATE_ordinal F_PREVIOUS_ordinal (own_neV (by decide))), if_neg (Fld.ne F_TERMINATE_ordinal F_NEXT_ordinal (own_neV (by decide))), if_neg (Fld.ne F_TERMINATE_ordinal F_FIRST_ordinal (own_neV (by decide))), if_neg (Fld.ne F_TERMINATE_ordinal F_LAST_ordinal (own_neV (by decide))), if_neg (Fld.ne F_TERMINATE_ordinal F_MOST_WAITING_ordinal (own_neV (by decide)))]; rfl
    rw [r36]
    show own_G p e below _ T36 (mkF m 133 #[.val (.int i0), .val (.ref a1), .val (.int (5 : Int32)), .val (.ref a_TERMINATE), .val (.int (0 : Int32))] [(.int (0 : Int32))])
    refine own_go (fun t k => XS.iload X36.here hx rfl (hb hby at_133) rfl k) ?_
    show own_G p e below _ T36 (mkF m 135 #[.val (.int i0), .val (.ref a1), .val (.int (5 : Int32)), .val (.ref a_TERMINATE), .val (.int (0 : Int32))] [(.int (0 : Int32)), (.int (0 : Int32))])
    refine own_go (fun t k => XS.icmpNo X36.here hx rfl (hb hby at_135) rfl (by decide) k) ?_
    show own_G p e below _ T36 (mkF m 138 #[.val (.int i0), .val (.ref a1), .val (.int (5 : Int32)), .val (.ref a_TERMINATE), .val (.int (0 : Int32))] [])
    refine own_go (fun t k => XS.iconst X36.here hx rfl (hb hby at_138) k) ?_
    show own_G p e below _ T36 (mkF m 139 #[.val (.int i0), .val (.ref a1), .val (.int (5 : Int32)), .val (.ref a_TERMINATE), .val (.int (0 : Int32))] [(.int (1 : Int32))])
    refine own_go (fun t k => XS.goto X36.here hx rfl (pc0 := 139) (pc' := 143) rfl (hb hby at_139) (by decide) (by decide) k) ?_
    show own_G p e below _ T36 (mkF m 143 #[.val (.int i0), .val (.ref a1), .val (.int (5 : Int32)), .val (.ref a_TERMINATE), .val (.int (0 : Int32))] [(.int (1 : Int32))])
    exact own_retN X36 hx hlk hret (by simp) (hb hby at_143) (by decide) (by decide) ⟨rfl, N36⟩
  · rw [hk30]
    show own_G p e below _ T29 (mkF m 105 #[.val (.int i0), .val (.ref a1), .unset, .unset, .unset] [(.int (6 : Int32))])
    refine own_go (fun t k => XS.istoreN X29.here hx rfl (hb hby at_105) rfl (l' := #[.val (.int i0), .val (.ref a1), .val (.int (6 : Int32)), .unset, .unset]) rfl k) ?_
    show own_G p e below _ T29 (mkF m 106 #[.val (.int i0), .val (.ref a1), .val (.int (6 : Int32)), .unset, .unset] [])
    refine own_go (fun t k => XS.aloadN X29.here hx rfl (hb hby at_106) rfl rfl k) ?_
    show own_G p e below _ T29 (mkF m 107 #[.val (.int i0), .val (.ref a1), .val (.int (6 : Int32)), .unset, .unset] [(.ref a1)])
    refine own_go (fun t k => XS.iloadN X29.here hx rfl (hb hby at_107) rfl k) ?_
    show own_G p e below _ T29 (mkF m 108 #[.val (.int i0), .val (.ref a1), .val (.int (6 : Int32)), .unset, .unset] [(.int (6 : Int32)), (.ref a1)])
    refine own_go (X29.aaload hx (j := (6 : Int32)) (v := (.ref a_YES)) (by rw [e29]; exact A29.1) (State.isArrayOf_alike hZ.alike A29.2.1) rfl A29.2.2 (own_in (n := 14) rfl (by decide)) rfl (g := (mkF m 108 #[.val (.int i0), .val (.ref a1), .val (.int (6 : Int32)), .unset, .unset] [(.int (6 : Int32)), (.ref a1)])) rfl rfl (hb hby at_108)) ?_
    show own_G p e below _ T29 (mkF m 109 #[.val (.int i0), .val (.ref a1), .val (.int (6 : Int32)), .unset, .unset] [(.ref a_YES)])
    refine own_go (fun t k => XS.astoreN X29.here hx rfl (hb hby at_109) rfl rfl (l' := #[.val (.int i0), .val (.ref a1), .val (.int (6 : Int32)), .val (.ref a_YES), .unset]) rfl k) ?_
    show own_G p e below _ T29 (mkF m 110 #[.val (.int i0), .val (.ref a1), .val (.int (6 : Int32)), .val (.ref a_YES), .unset] [])
    refine own_go (fun t k => XS.iloadN X29.here hx rfl (hb hby at_110) rfl k) ?_
    show own_G p e below _ T29 (mkF m 111 #[.val (.int i0), .val (.ref a1), .val (.int (6 : Int32)), .val (.ref a_YES), .unset] [(.int (6 : Int32))])
    refine own_go (fun t k => XS.bipush X29.here hx rfl (hb hby at_111) k) ?_
    show own_G p e below _ T29 (mkF m 113 #[.val (.int i0), .val (.ref a1), .val (.int (6 : Int32)), .val (.ref a_YES), .unset] [(.int (8 : Int32)), (.int (6 : Int32))])
    refine own_go (fun t k => XS.icmpYes X29.here hx rfl (pc0 := 113) (pc' := 126) rfl (hb hby at_113) rfl (by decide) (by decide) (by decide) k) ?_
    show own_G p e below _ T29 (mkF m 126 #[.val (.int i0), .val (.ref a1), .val (.int (6 : Int32)), .val (.ref a_YES), .unset] [])
    refine own_go (fun t k => XS.iconst X29.here hx rfl (hb hby at_126) k) ?_
    show own_G p e below _ T29 (mkF m 127 #[.val (.int i0), .val (.ref a1), .val (.int (6 : Int32)), .val (.ref a_YES), .unset] [(.int (0 : Int32))])
    refine own_go (fun t k => XS.istore X29.here hx rfl (hb hby at_127) rfl (l' := #[.val (.int i0), .val (.ref a1), .val (.int (6 : Int32)), .val (.ref a_YES), .val (.int (0 : Int32))]) rfl k) ?_
    show own_G p e below _ T29 (mkF m 129 #[.val (.int i0), .val (.ref a1), .val (.int (6 : Int32)), .val (.ref a_YES), .val (.int (0 : Int32))] [])
    refine own_go (fun t k => XS.aloadN X29.here hx rfl (hb hby at_129) rfl rfl k) ?_
    show own_G p e below _ T29 (mkF m 130 #[.val (.int i0), .val (.ref a1), .val (.int (6 : Int32)), .val (.ref a_YES), .val (.int (0 : Int32))] [(.ref a_YES)])
    obtain ⟨T37, L37, v37, X37, ⟨rfl, rfl, q37⟩, st37⟩ := own_callV X29 hx hZ (y := (⟨"com/example/locktop/locktop/view/Key", "steps", "()Z"⟩ : MethodName)) (z := (⟨"com/example/locktop/locktop/view/Key", "steps", "()Z"⟩ : MethodName)) hown (hw _ (List.mem_of_getElem? (i := 33) rfl)) (hw _ (List.mem_of_getElem? (i := 34) rfl)) (hw _ (List.mem_of_getElem? (i := 36) rfl)) (hw _ (List.mem_of_getElem? (i := 36) rfl)) (hw _ (List.mem_of_getElem? (i := 35) rfl)) (hw _ (List.mem_of_getElem? (i := 37) rfl)) (hw _ (List.mem_of_getElem? (i := 3) rfl)) (notFace_of_selects (args := #[]) (mvT hZ (hw _ (List.mem_of_getElem? (i := 36) rfl)))) (by decide) (c_steps l Z a0 hw a_UP a_DOWN a_ENTER a_ESCAPE a_CANCEL a_TERMINATE a_YES a_QUIT a_PREVIOUS a_NEXT a_FIRST a_LAST a_MOST_WAITING a_OTHER a_YES h29 (own_B_ext x29 B) ) e29 (E_YES.ext x29) (argsL := []) (rest := []) (g := (mkF m 130 #[.val (.int i0), .val (.ref a1), .val (.int (6 : Int32)), .val (.ref a_YES), .val (.int (0 : Int32))] [(.ref a_YES)])) rfl (by rw [hml]; rfl) (ps := []) (r := (some .boolean)) (by decide +kernel) rfl rfl (W := 0) (by show 2 * 0 + _ ≤ _; exact Nat.le_of_eq rfl) (hb hby at_130) (by decide) (by decide) (by decide) (by decide)
    have N37 := Fr.app N29 (Fr.nil n0)
    refine own_go st37 ?_
    show own_G p e below _ T37 (mkF m 133 #[.val (.int i0), .val (.ref a1), .val (.int (6 : Int32)), .val (.ref a_YES), .val (.int (0 : Int32))] [(.int (own_steps a_UP a_DOWN a_ENTER a_ESCAPE a_CANCEL a_TERMINATE a_YES a_QUIT a_PREVIOUS a_NEXT a_FIRST a_LAST a_MOST_WAITING a_OTHER a_YES))])
    have r37 : (own_steps a_UP a_DOWN a_ENTER a_ESCAPE a_CANCEL a_TERMINATE a_YES a_QUIT a_PREVIOUS a_NEXT a_FIRST a_LAST a_MOST_WAITING a_OTHER a_YES) = (0 : Int32) := by unfold own_steps; rw [if_neg (Fld.ne F_YES_ordinal F_PREVIOUS_ordinal (own_neV (by decide))), if_neg (Fld.ne F_YES_ordinal F_NEXT_ordinal (own_neV (by decide))), if_neg (Fld.ne F_YES_ordinal F_FIRST_ordinal (own_neV (by decide))), if_neg (Fld.ne F_YES_ordinal F_LAST_ordinal (own_neV (by decide))), if_neg (Fld.ne F_YES_ordinal F_MOST_WAITING_ordinal (own_neV (by decide)))]; rfl
    rw [r37]
    show own_G p e below _ T37 (mkF m 133 #[.val (.int i0), .val (.ref a1), .val (.int (6 : Int32)), .val (.ref a_YES), .val (.int (0 : Int32))] [(.int (0 : Int32))])
    refine own_go (fun t k => XS.iload X37.here hx rfl (hb hby at_133) rfl k) ?_
    show own_G p e below _ T37 (mkF m 135 #[.val (.int i0), .val (.ref a1), .val (.int (6 : Int32)), .val (.ref a_YES), .val (.int (0 : Int32))] [(.int (0 : Int32)), (.int (0 : Int32))])
    refine own_go (fun t k => XS.icmpNo X37.here hx rfl (hb hby at_135) rfl (by decide) k) ?_
    show own_G p e below _ T37 (mkF m 138 #[.val (.int i0), .val (.ref a1), .val (.int (6 : Int32)), .val (.ref a_YES), .val (.int (0 : Int32))] [])
    refine own_go (fun t k => XS.iconst X37.here hx rfl (hb hby at_138) k) ?_
    show own_G p e below _ T37 (mkF m 139 #[.val (.int i0), .val (.ref a1), .val (.int (6 : Int32)), .val (.ref a_YES), .val (.int (0 : Int32))] [(.int (1 : Int32))])
    refine own_go (fun t k => XS.goto X37.here hx rfl (pc0 := 139) (pc' := 143) rfl (hb hby at_139) (by decide) (by decide) k) ?_
    show own_G p e below _ T37 (mkF m 143 #[.val (.int i0), .val (.ref a1), .val (.int (6 : Int32)), .val (.ref a_YES), .val (.int (0 : Int32))] [(.int (1 : Int32))])
    exact own_retN X37 hx hlk hret (by simp) (hb hby at_143) (by decide) (by decide) ⟨rfl, N37⟩
  · rw [hk30]
    show own_G p e below _ T29 (mkF m 105 #[.val (.int i0), .val (.ref a1), .unset, .unset, .unset] [(.int (7 : Int32))])
    refine own_go (fun t k => XS.istoreN X29.here hx rfl (hb hby at_105) rfl (l' := #[.val (.int i0), .val (.ref a1), .val (.int (7 : Int32)), .unset, .unset]) rfl k) ?_
    show own_G p e below _ T29 (mkF m 106 #[.val (.int i0), .val (.ref a1), .val (.int (7 : Int32)), .unset, .unset] [])
    refine own_go (fun t k => XS.aloadN X29.here hx rfl (hb hby at_106) rfl rfl k) ?_
    show own_G p e below _ T29 (mkF m 107 #[.val (.int i0), .val (.ref a1), .val (.int (7 : Int32)), .unset, .unset] [(.ref a1)])
    refine own_go (fun t k => XS.iloadN X29.here hx rfl (hb hby at_107) rfl k) ?_
    show own_G p e below _ T29 (mkF m 108 #[.val (.int i0), .val (.ref a1), .val (.int (7 : Int32)), .unset, .unset] [(.int (7 : Int32)), (.ref a1)])
    refine own_go (X29.aaload hx (j := (7 : Int32)) (v := (.ref a_QUIT)) (by rw [e29]; exact A29.1) (State.isArrayOf_alike hZ.alike A29.2.1) rfl A29.2.2 (own_in (n := 14) rfl (by decide)) rfl (g := (mkF m 108 #[.val (.int i0), .val (.ref a1), .val (.int (7 : Int32)), .unset, .unset] [(.int (7 : Int32)), (.ref a1)])) rfl rfl (hb hby at_108)) ?_
    show own_G p e below _ T29 (mkF m 109 #[.val (.int i0), .val (.ref a1), .val (.int (7 : Int32)), .unset, .unset] [(.ref a_QUIT)])
    refine own_go (fun t k => XS.astoreN X29.here hx rfl (hb hby at_109) rfl rfl (l' := #[.val (.int i0), .val (.ref a1), .val (.int (7 : Int32)), .val (.ref a_QUIT), .unset]) rfl k) ?_
    show own_G p e below _ T29 (mkF m 110 #[.val (.int i0), .val (.ref a1), .val (.int (7 : Int32)), .val (.ref a_QUIT), .unset] [])
    refine own_go (fun t k => XS.iloadN X29.here hx rfl (hb hby at_110) rfl k) ?_
    show own_G p e below _ T29 (mkF m 111 #[.val (.int i0), .val (.ref a1), .val (.int (7 : Int32)), .val (.ref a_QUIT), .unset] [(.int (7 : Int32))])
    refine own_go (fun t k => XS.bipush X29.here hx rfl (hb hby at_111) k) ?_
    show own_G p e below _ T29 (mkF m 113 #[.val (.int i0), .val (.ref a1), .val (.int (7 : Int32)), .val (.ref a_QUIT), .unset] [(.int (8 : Int32)), (.int (7 : Int32))])
    refine own_go (fun t k => XS.icmpYes X29.here hx rfl (pc0 := 113) (pc' := 126) rfl (hb hby at_113) rfl (by decide) (by decide) (by decide) k) ?_
    show own_G p e below _ T29 (mkF m 126 #[.val (.int i0), .val (.ref a1), .val (.int (7 : Int32)), .val (.ref a_QUIT), .unset] [])
    refine own_go (fun t k => XS.iconst X29.here hx rfl (hb hby at_126) k) ?_
    show own_G p e below _ T29 (mkF m 127 #[.val (.int i0), .val (.ref a1), .val (.int (7 : Int32)), .val (.ref a_QUIT), .unset] [(.int (0 : Int32))])
    refine own_go (fun t k => XS.istore X29.here hx rfl (hb hby at_127) rfl (l' := #[.val (.int i0), .val (.ref a1), .val (.int (7 : Int32)), .val (.ref a_QUIT), .val (.int (0 : Int32))]) rfl k) ?_
    show own_G p e below _ T29 (mkF m 129 #[.val (.int i0), .val (.ref a1), .val (.int (7 : Int32)), .val (.ref a_QUIT), .val (.int (0 : Int32))] [])
    refine own_go (fun t k => XS.aloadN X29.here hx rfl (hb hby at_129) rfl rfl k) ?_
    show own_G p e below _ T29 (mkF m 130 #[.val (.int i0), .val (.ref a1), .val (.int (7 : Int32)), .val (.ref a_QUIT), .val (.int (0 : Int32))] [(.ref a_QUIT)])
    obtain ⟨T38, L38, v38, X38, ⟨rfl, rfl, q38⟩, st38⟩ := own_callV X29 hx hZ (y := (⟨"com/example/locktop/locktop/view/Key", "steps", "()Z"⟩ : MethodName)) (z := (⟨"com/example/locktop/locktop/view/Key", "steps", "()Z"⟩ : MethodName)) hown (hw _ (List.mem_of_getElem? (i := 33) rfl)) (hw _ (List.mem_of_getElem? (i := 34) rfl)) (hw _ (List.mem_of_getElem? (i := 36) rfl)) (hw _ (List.mem_of_getElem? (i := 36) rfl)) (hw _ (List.mem_of_getElem? (i := 35) rfl)) (hw _ (List.mem_of_getElem? (i := 37) rfl)) (hw _ (List.mem_of_getElem? (i := 3) rfl)) (notFace_of_selects (args := #[]) (mvT hZ (hw _ (List.mem_of_getElem? (i := 36) rfl)))) (by decide) (c_steps l Z a0 hw a_UP a_DOWN a_ENTER a_ESCAPE a_CANCEL a_TERMINATE a_YES a_QUIT a_PREVIOUS a_NEXT a_FIRST a_LAST a_MOST_WAITING a_OTHER a_QUIT h29 (own_B_ext x29 B) ) e29 (E_QUIT.ext x29) (argsL := []) (rest := []) (g := (mkF m 130 #[.val (.int i0), .val (.ref a1), .val (.int (7 : Int32)), .val (.ref a_QUIT), .val (.int (0 : Int32))] [(.ref a_QUIT)])) rfl (by rw [hml]; rfl) (ps := []) (r := (some .boolean)) (by decide +kernel) rfl rfl (W := 0) (by show 2 * 0 + _ ≤ _; exact Nat.le_of_eq rfl) (hb hby at_130) (by decide) (by decide) (by decide) (by decide)
    have N38 := Fr.app N29 (Fr.nil n0)
    refine own_go st38 ?_
    show own_G p e below _ T38 (mkF m 133 #[.val (.int i0), .val (.ref a1), .val (.int (7 : Int32)), .val (.ref a_QUIT), .val (.int (0 : Int32))] [(.int (own_steps a_UP a_DOWN a_ENTER a_ESCAPE a_CANCEL a_TERMINATE a_YES a_QUIT a_PREVIOUS a_NEXT a_FIRST a_LAST a_MOST_WAITING a_OTHER a_QUIT))])
    have r38 : (own_steps a_UP a_DOWN a_ENTER a_ESCAPE a_CANCEL a_TERMINATE a_YES a_QUIT a_PREVIOUS a_NEXT a_FIRST a_LAST a_MOST_WAITING a_OTHER a_QUIT) = (0 : Int32) := by unfold own_steps; rw [if_neg (Fld.ne F_QUIT_ordinal F_PREVIOUS_ordinal (own_neV (by decide))), if_neg (Fld.ne F_QUIT_ordinal F_NEXT_ordinal (own_neV (by decide))), if_neg (Fld.ne F_QUIT_ordinal F_FIRST_ordinal (own_neV (by decide))), if_neg (Fld.ne F_QUIT_ordinal F_LAST_ordinal (own_neV (by decide))), if_neg (Fld.ne F_QUIT_ordinal F_MOST_WAITING_ordinal (own_neV (by decide)))]; rfl
    rw [r38]
    show own_G p e below _ T38 (mkF m 133 #[.val (.int i0), .val (.ref a1), .val (.int (7 : Int32)), .val (.ref a_QUIT), .val (.int (0 : Int32))] [(.int (0 : Int32))])
    refine own_go (fun t k => XS.iload X38.here hx rfl (hb hby at_133) rfl k) ?_
    show own_G p e below _ T38 (mkF m 135 #[.val (.int i0), .val (.ref a1), .val (.int (7 : Int32)), .val (.ref a_QUIT), .val (.int (0 : Int32))] [(.int (0 : Int32)), (.int (0 : Int32))])
    refine own_go (fun t k => XS.icmpNo X38.here hx rfl (hb hby at_135) rfl (by decide) k) ?_
    show own_G p e below _ T38 (mkF m 138 #[.val (.int i0), .val (.ref a1), .val (.int (7 : Int32)), .val (.ref a_QUIT), .val (.int (0 : Int32))] [])
    refine own_go (fun t k => XS.iconst X38.here hx rfl (hb hby at_138) k) ?_
    show own_G p e below _ T38 (mkF m 139 #[.val (.int i0), .val (.ref a1), .val (.int (7 : Int32)), .val (.ref a_QUIT), .val (.int (0 : Int32))] [(.int (1 : Int32))])
    refine own_go (fun t k => XS.goto X38.here hx rfl (pc0 := 139) (pc' := 143) rfl (hb hby at_139) (by decide) (by decide) k) ?_
    show own_G p e below _ T38 (mkF m 143 #[.val (.int i0), .val (.ref a1), .val (.int (7 : Int32)), .val (.ref a_QUIT), .val (.int (0 : Int32))] [(.int (1 : Int32))])
    exact own_retN X38 hx hlk hret (by simp) (hb hby at_143) (by decide) (by decide) ⟨rfl, N38⟩
  · rw [hk30]
    show own_G p e below _ T29 (mkF m 105 #[.val (.int i0), .val (.ref a1), .unset, .unset, .unset] [(.int (8 : Int32))])
    refine own_go (fun t k => XS.istoreN X29.here hx rfl (hb hby at_105) rfl (l' := #[.val (.int i0), .val (.ref a1), .val (.int (8 : Int32)), .unset, .unset]) rfl k) ?_
    show own_G p e below _ T29 (mkF m 106 #[.val (.int i0), .val (.ref a1), .val (.int (8 : Int32)), .unset, .unset] [])
    refine own_go (fun t k => XS.aloadN X29.here hx rfl (hb hby at_106) rfl rfl k) ?_
    show own_G p e below _ T29 (mkF m 107 #[.val (.int i0), .val (.ref a1), .val (.int (8 : Int32)), .unset, .unset] [(.ref a1)])
    refine own_go (fun t k => XS.iloadN X29.here hx rfl (hb hby at_107) rfl k) ?_
    show own_G p e below _ T29 (mkF m 108 #[.val (.int i0), .val (.ref a1), .val (.int (8 : Int32)), .unset, .unset] [(.int (8 : Int32)), (.ref a1)])
    refine own_go (X29.aaload hx (j := (8 : Int32)) (v := (.ref a_PREVIOUS)) (by rw [e29]; exact A29.1) (State.isArrayOf_alike hZ.alike A29.2.1) rfl A29.2.2 (own_in (n := 14) rfl (by decide)) rfl (g := (mkF m 108 #[.val (.int i0), .val (.ref a1), .val (.int (8 : Int32)), .unset, .unset] [(.int (8 : Int32)), (.ref a1)])) rfl rfl (hb hby at_108)) ?_
    show own_G p e below _ T29 (mkF m 109 #[.val (.int i0), .val (.ref a1), .val (.int (8 : Int32)), .unset, .unset] [(.ref a_PREVIOUS)])
    refine own_go (fun t k => XS.astoreN X29.here hx rfl (hb hby at_109) rfl rfl (l' := #[.val (.int i0), .val (.ref a1), .val (.int (8 : Int32)), .val (.ref a_PREVIOUS), .unset]) rfl k) ?_
    show own_G p e below _ T29 (mkF m 110 #[.val (.int i0), .val (.ref a1), .val (.int (8 : Int32)), .val (.ref a_PREVIOUS), .unset] [])
    refine own_go (fun t k => XS.iloadN X29.here hx rfl (hb hby at_110) rfl k) ?_
    show own_G p e below _ T29 (mkF m 111 #[.val (.int i0), .val (.ref a1), .val (.int (8 : Int32)), .val (.ref a_PREVIOUS), .unset] [(.int (8 : Int32))])
    refine own_go (fun t k => XS.bipush X29.here hx rfl (hb hby at_111) k) ?_
    show own_G p e below _ T29 (mkF m 113 #[.val (.int i0), .val (.ref a1), .val (.int (8 : Int32)), .val (.ref a_PREVIOUS), .unset] [(.int (8 : Int32)), (.int (8 : Int32))])
    refine own_go (fun t k => XS.icmpNo X29.here hx rfl (hb hby at_113) rfl (by decide) k) ?_
    show own_G p e below _ T29 (mkF m 116 #[.val (.int i0), .val (.ref a1), .val (.int (8 : Int32)), .val (.ref a_PREVIOUS), .unset] [])
    refine own_go (fun t k => XS.iloadN X29.here hx rfl (hb hby at_116) rfl k) ?_
    show own_G p e below _ T29 (mkF m 117 #[.val (.int i0), .val (.ref a1), .val (.int (8 : Int32)), .val (.ref a_PREVIOUS), .unset] [(.int (8 : Int32))])
    refine own_go (fun t k => XS.bipush X29.here hx rfl (hb hby at_117) k) ?_
    show own_G p e below _ T29 (mkF m 119 #[.val (.int i0), .val (.ref a1), .val (.int (8 : Int32)), .val (.ref a_PREVIOUS), .unset] [(.int (12 : Int32)), (.int (8 : Int32))])
    refine own_go (fun t k => XS.icmpNo X29.here hx rfl (hb hby at_119) rfl (by decide) k) ?_
    show own_G p e below _ T29 (mkF m 122 #[.val (.int i0), .val (.ref a1), .val (.int (8 : Int32)), .val (.ref a_PREVIOUS), .unset] [])
    refine own_go (fun t k => XS.iconst X29.here hx rfl (hb hby at_122) k) ?_
    show own_G p e below _ T29 (mkF m 123 #[.val (.int i0), .val (.ref a1), .val (.int (8 : Int32)), .val (.ref a_PREVIOUS), .unset] [(.int (1 : Int32))])
    refine own_go (fun t k => XS.goto X29.here hx rfl (pc0 := 123) (pc' := 127) rfl (hb hby at_123) (by decide) (by decide) k) ?_
    show own_G p e below _ T29 (mkF m 127 #[.val (.int i0), .val (.ref a1), .val (.int (8 : Int32)), .val (.ref a_PREVIOUS), .unset] [(.int (1 : Int32))])
    refine own_go (fun t k => XS.istore X29.here hx rfl (hb hby at_127) rfl (l' := #[.val (.int i0), .val (.ref a1), .val (.int (8 : Int32)), .val (.ref a_PREVIOUS), .val (.int (1 : Int32))]) rfl k) ?_
    show own_G p e below _ T29 (mkF m 129 #[.val (.int i0), .val (.ref a1), .val (.int (8 : Int32)), .val (.ref a_PREVIOUS), .val (.int (1 : Int32))] [])
    refine own_go (fun t k => XS.aloadN X29.here hx rfl (hb hby at_129) rfl rfl k) ?_
    show own_G p e below _ T29 (mkF m 130 #[.val (.int i0), .val (.ref a1), .val (.int (8 : Int32)), .val (.ref a_PREVIOUS), .val (.int (1 : Int32))] [(.ref a_PREVIOUS)])
    obtain ⟨T39, L39, v39, X39, ⟨rfl, rfl, q39⟩, st39⟩ := own_callV X29 hx hZ (y := (⟨"com/example/locktop/locktop/view/Key", "steps", "()Z"⟩ : MethodName)) (z := (⟨"com/example/locktop/locktop/view/Key", "steps", "()Z"⟩ : MethodName)) hown (hw _ (List.mem_of_getElem? (i := 33) rfl)) (hw _ (List.mem_of_getElem? (i := 34) rfl)) (hw _ (List.mem_of_getElem? (i := 36) rfl)) (hw _ (List.mem_of_getElem? (i := 36) rfl)) (hw _ (List.mem_of_getElem? (i := 35) rfl)) (hw _ (List.mem_of_getElem? (i := 37) rfl)) (hw _ (List.mem_of_getElem? (i := 3) rfl)) (notFace_of_selects (args := #[]) (mvT hZ (hw _ (List.mem_of_getElem? (i := 36) rfl)))) (by decide) (c_steps l Z a0 hw a_UP a_DOWN a_ENTER a_ESCAPE a_CANCEL a_TERMINATE a_YES a_QUIT a_PREVIOUS a_NEXT a_FIRST a_LAST a_MOST_WAITING a_OTHER a_PREVIOUS h29 (own_B_ext x29 B) ) e29 (E_PREVIOUS.ext x29) (argsL := []) (rest := []) (g := (mkF m 130 #[.val (.int i0), .val (.ref a1), .val (.int (8 : Int32)), .val (.ref a_PREVIOUS), .val (.int (1 : Int32))] [(.ref a_PREVIOUS)])) rfl (by rw [hml]; rfl) (ps := []) (r := (some .boolean)) (by decide +kernel) rfl rfl (W := 0) (by show 2 * 0 + _ ≤ _; exact Nat.le_of_eq rfl) (hb hby at_130) (by decide) (by decide) (by decide) (by decide)
    have N39 := Fr.app N29 (Fr.nil n0)
    refine own_go st39 ?_
    show own_G p e below _ T39 (mkF m 133 #[.val (.int i0), .val (.ref a1), .val (.int (8 : Int32)), .val (.ref a_PREVIOUS), .val (.int (1 : Int32))] [(.int (own_steps a_UP a_DOWN a_ENTER a_ESCAPE a_CANCEL a_TERMINATE a_YES a_QUIT a_PREVIOUS a_NEXT a_FIRST a_LAST a_MOST_WAITING a_OTHER a_PREVIOUS))])
    have r39 : (own_steps a_UP a_DOWN a_ENTER a_ESCAPE a_CANCEL a_TERMINATE a_YES a_QUIT a_PREVIOUS a_NEXT a_FIRST a_LAST a_MOST_WAITING a_OTHER a_PREVIOUS) = (1 : Int32) := by unfold own_steps; rw [if_pos (rfl : a_PREVIOUS = a_PREVIOUS)]; rfl
    rw [r39]
    show own_G p e below _ T39 (mkF m 133 #[.val (.int i0), .val (.ref a1), .val (.int (8 : Int32)), .val (.ref a_PREVIOUS), .val (.int (1 : Int32))] [(.int (1 : Int32))])
    refine own_go (fun t k => XS.iload X39.here hx rfl (hb hby at_133) rfl k) ?_
    show own_G p e below _ T39 (mkF m 135 #[.val (.int i0), .val (.ref a1), .val (.int (8 : Int32)), .val (.ref a_PREVIOUS), .val (.int (1 : Int32))] [(.int (1 : Int32)), (.int (1 : Int32))])
    refine own_go (fun t k => XS.icmpNo X39.here hx rfl (hb hby at_135) rfl (by decide) k) ?_
    show own_G p e below _ T39 (mkF m 138 #[.val (.int i0), .val (.ref a1), .val (.int (8 : Int32)), .val (.ref a_PREVIOUS), .val (.int (1 : Int32))] [])
    refine own_go (fun t k => XS.iconst X39.here hx rfl (hb hby at_138) k) ?_
    show own_G p e below _ T39 (mkF m 139 #[.val (.int i0), .val (.ref a1), .val (.int (8 : Int32)), .val (.ref a_PREVIOUS), .val (.int (1 : Int32))] [(.int (1 : Int32))])
    refine own_go (fun t k => XS.goto X39.here hx rfl (pc0 := 139) (pc' := 143) rfl (hb hby at_139) (by decide) (by decide) k) ?_
    show own_G p e below _ T39 (mkF m 143 #[.val (.int i0), .val (.ref a1), .val (.int (8 : Int32)), .val (.ref a_PREVIOUS), .val (.int (1 : Int32))] [(.int (1 : Int32))])
    exact own_retN X39 hx hlk hret (by simp) (hb hby at_143) (by decide) (by decide) ⟨rfl, N39⟩
  · rw [hk30]
    show own_G p e below _ T29 (mkF m 105 #[.val (.int i0), .val (.ref a1), .unset, .unset, .unset] [(.int (9 : Int32))])
    refine own_go (fun t k => XS.istoreN X29.here hx rfl (hb hby at_105) rfl (l' := #[.val (.int i0), .val (.ref a1), .val (.int (9 : Int32)), .unset, .unset]) rfl k) ?_
    show own_G p e below _ T29 (mkF m 106 #[.val (.int i0), .val (.ref a1), .val (.int (9 : Int32)), .unset, .unset] [])
    refine own_go (fun t k => XS.aloadN X29.here hx rfl (hb hby at_106) rfl rfl k) ?_
    show own_G p e below _ T29 (mkF m 107 #[.val (.int i0), .val (.ref a1), .val (.int (9 : Int32)), .unset, .unset] [(.ref a1)])
    refine own_go (fun t k => XS.iloadN X29.here hx rfl (hb hby at_107) rfl k) ?_
    show own_G p e below _ T29 (mkF m 108 #[.val (.int i0), .val (.ref a1), .val (.int (9 : Int32)), .unset, .unset] [(.int (9 : Int32)), (.ref a1)])
    refine own_go (X29.aaload hx (j := (9 : Int32)) (v := (.ref a_NEXT)) (by rw [e29]; exact A29.1) (State.isArrayOf_alike hZ.alike A29.2.1) rfl A29.2.2 (own_in (n := 14) rfl (by decide)) rfl (g := (mkF m 108 #[.val (.int i0), .val (.ref a1), .val (.int (9 : Int32)), .unset, .unset] [(.int (9 : Int32)), (.ref a1)])) rfl rfl (hb hby at_108)) ?_
    show own_G p e below _ T29 (mkF m 109 #[.val (.int i0), .val (.ref a1), .val (.int (9 : Int32)), .unset, .unset] [(.ref a_NEXT)])
    refine own_go (fun t k => XS.astoreN X29.here hx rfl (hb hby at_109) rfl rfl (l' := #[.val (.int i0), .val (.ref a1), .val (.int (9 : Int32)), .val (.ref a_NEXT), .unset]) rfl k) ?_
    show own_G p e below _ T29 (mkF m 110 #[.val (.int i0), .val (.ref a1), .val (.int (9 : Int32)), .val (.ref a_NEXT), .unset] [])
    refine own_go (fun t k => XS.iloadN X29.here hx rfl (hb hby at_110) rfl k) ?_
    show own_G p e below _ T29 (mkF m 111 #[.val (.int i0), .val (.ref a1), .val (.int (9 : Int32)), .val (.ref a_NEXT), .unset] [(.int (9 : Int32))])
    refine own_go (fun t k => XS.bipush X29.here hx rfl (hb hby at_111) k) ?_
    show own_G p e below _ T29 (mkF m 113 #[.val (.int i0), .val (.ref a1), .val (.int (9 : Int32)), .val (.ref a_NEXT), .unset] [(.int (8 : Int32)), (.int (9 : Int32))])
    refine own_go (fun t k => XS.icmpNo X29.here hx rfl (hb hby at_113) rfl (by decide) k) ?_
    show own_G p e below _ T29 (mkF m 116 #[.val (.int i0), .val (.ref a1), .val (.int (9 : Int32)), .val (.ref a_NEXT), .unset] [])
    refine own_go (fun t k => XS.iloadN X29.here hx rfl (hb hby at_116) rfl k) ?_
    show own_G p e below _ T29 (mkF m 117 #[.val (.int i0), .val (.ref a1), .val (.int (9 : Int32)), .val (.ref a_NEXT), .unset] [(.int (9 : Int32))])
    refine own_go (fun t k => XS.bipush X29.here hx rfl (hb hby at_117) k) ?_
    show own_G p e below _ T29 (mkF m 119 #[.val (.int i0), .val (.ref a1), .val (.int (9 : Int32)), .val (.ref a_NEXT), .unset] [(.int (12 : Int32)), (.int (9 : Int32))])
    refine own_go (fun t k => XS.icmpNo X29.here hx rfl (hb hby at_119) rfl (by decide) k) ?_
    show own_G p e below _ T29 (mkF m 122 #[.val (.int i0), .val (.ref a1), .val (.int (9 : Int32)), .val (.ref a_NEXT), .unset] [])
    refine own_go (fun t k => XS.iconst X29.here hx rfl (hb hby at_122) k) ?_
    show own_G p e below _ T29 (mkF m 123 #[.val (.int i0), .val (.ref a1), .val (.int (9 : Int32)), .val (.ref a_NEXT), .unset] [(.int (1 : Int32))])
    refine own_go (fun t k => XS.goto X29.here hx rfl (pc0 := 123) (pc' := 127) rfl (hb hby at_123) (by decide) (by decide) k) ?_
    show own_G p e below _ T29 (mkF m 127 #[.val (.int i0), .val (.ref a1), .val (.int (9 : Int32)), .val (.ref a_NEXT), .unset] [(.int (1 : Int32))])
    refine own_go (fun t k => XS.istore X29.here hx rfl (hb hby at_127) rfl (l' := #[.val (.int i0), .val (.ref a1), .val (.int (9 : Int32)), .val (.ref a_NEXT), .val (.int (1 : Int32))]) rfl k) ?_
    show own_G p e below _ T29 (mkF m 129 #[.val (.int i0), .val (.ref a1), .val (.int (9 : Int32)), .val (.ref a_NEXT), .val (.int (1 : Int32))] [])
    refine own_go (fun t k => XS.aloadN X29.here hx rfl (hb hby at_129) rfl rfl k) ?_
    show own_G p e below _ T29 (mkF m 130 #[.val (.int i0), .val (.ref a1), .val (.int (9 : Int32)), .val (.ref a_NEXT), .val (.int (1 : Int32))] [(.ref a_NEXT)])
    obtain ⟨T40, L40, v40, X40, ⟨rfl, rfl, q40⟩, st40⟩ := own_callV X29 hx hZ (y := (⟨"com/example/locktop/locktop/view/Key", "steps", "()Z"⟩ : MethodName)) (z := (⟨"com/example/locktop/locktop/view/Key", "steps", "()Z"⟩ : MethodName)) hown (hw _ (List.mem_of_getElem? (i := 33) rfl)) (hw _ (List.mem_of_getElem? (i := 34) rfl)) (hw _ (List.mem_of_getElem? (i := 36) rfl)) (hw _ (List.mem_of_getElem? (i := 36) rfl)) (hw _ (List.mem_of_getElem? (i := 35) rfl)) (hw _ (List.mem_of_getElem? (i := 37) rfl)) (hw _ (List.mem_of_getElem? (i := 3) rfl)) (notFace_of_selects (args := #[]) (mvT hZ (hw _ (List.mem_of_getElem? (i := 36) rfl)))) (by decide) (c_steps l Z a0 hw a_UP a_DOWN a_ENTER a_ESCAPE a_CANCEL a_TERMINATE a_YES a_QUIT a_PREVIOUS a_NEXT a_FIRST a_LAST a_MOST_WAITING a_OTHER a_NEXT h29 (own_B_ext x29 B) ) e29 (E_NEXT.ext x29) (argsL := []) (rest := []) (g := (mkF m 130 #[.val (.int i0), .val (.ref a1), .val (.int (9 : Int32)), .val (.ref a_NEXT), .val (.int (1 : Int32))] [(.ref a_NEXT)])) rfl (by rw [hml]; rfl) (ps := []) (r := (some .boolean)) (by decide +kernel) rfl rfl (W := 0) (by show 2 * 0 + _ ≤ _; exact Nat.le_of_eq rfl) (hb hby at_130) (by decide) (by decide) (by decide) (by decide)
    have N40 := Fr.app N29 (Fr.nil n0)
    refine own_go st40 ?_
    show own_G p e below _ T40 (mkF m 133 #[.val (.int i0), .val (.ref a1), .val (.int (9 : Int32)), .val (.ref a_NEXT), .val (.int (1 : Int32))] [(.int (own_steps a_UP a_DOWN a_ENTER a_ESCAPE a_CANCEL a_TERMINATE a_YES a_QUIT a_PREVIOUS a_NEXT a_FIRST a_LAST a_MOST_WAITING a_OTHER a_NEXT))])
    have r40 : (own_steps a_UP a_DOWN a_ENTER a_ESCAPE a_CANCEL a_TERMINATE a_YES a_QUIT a_PREVIOUS a_NEXT a_FIRST a_LAST a_MOST_WAITING a_OTHER a_NEXT) = (1 : Int32) := by unfold own_steps; rw [if_neg (Fld.ne F_NEXT_ordinal F_PREVIOUS_ordinal (own_neV (by decide))), if_pos (rfl : a_NEXT = a_NEXT)]; rfl
    rw [r40]
    show own_G p e below _ T40 (mkF m 133 #[.val (.int i0), .val (.ref a1), .val (.int (9 : Int32)), .val (.ref a_NEXT), .val (.int (1 : Int32))] [(.int (1 : Int32))])
    refine own_go (fun t k => XS.iload X40.here hx rfl (hb hby at_133) rfl k) ?_
    show own_G p e below _ T40 (mkF m 135 #[.val (.int i0), .val (.ref a1), .val (.int (9 : Int32)), .val (.ref a_NEXT), .val (.int (1 : Int32))] [(.int (1 : Int32)), (.int (1 : Int32))])
    refine own_go (fun t k => XS.icmpNo X40.here hx rfl (hb hby at_135) rfl (by decide) k) ?_
    show own_G p e below _ T40 (mkF m 138 #[.val (.int i0), .val (.ref a1), .val (.int (9 : Int32)), .val (.ref a_NEXT), .val (.int (1 : Int32))] [])
    refine own_go (fun t k => XS.iconst X40.here hx rfl (hb hby at_138) k) ?_
    show own_G p e below _ T40 (mkF m 139 #[.val (.int i0), .val (.ref a1), .val (.int (9 : Int32)), .val (.ref a_NEXT), .val (.int (1 : Int32))] [(.int (1 : Int32))])
    refine own_go (fun t k => XS.goto X40.here hx rfl (pc0 := 139) (pc' := 143) rfl (hb hby at_139) (by decide) (by decide) k) ?_
    show own_G p e below _ T40 (mkF m 143 #[.val (.int i0), .val (.ref a1), .val (.int (9 : Int32)), .val (.ref a_NEXT), .val (.int (1 : Int32))] [(.int (1 : Int32))])
    exact own_retN X40 hx hlk hret (by simp) (hb hby at_143) (by decide) (by decide) ⟨rfl, N40⟩
  · rw [hk30]
    show own_G p e below _ T29 (mkF m 105 #[.val (.int i0), .val (.ref a1), .unset, .unset, .unset] [(.int (10 : Int32))])
    refine own_go (fun t k => XS.istoreN X29.here hx rfl (hb hby at_105) rfl (l' := #[.val (.int i0), .val (.ref a1), .val (.int (10 : Int32)), .unset, .unset]) rfl k) ?_
    show own_G p e below _ T29 (mkF m 106 #[.val (.int i0), .val (.ref a1), .val (.int (10 : Int32)), .unset, .unset] [])
    refine own_go (fun t k => XS.aloadN X29.here hx rfl (hb hby at_106) rfl rfl k) ?_
    show own_G p e below _ T29 (mkF m 107 #[.val (.int i0), .val (.ref a1), .val (.int (10 : Int32)), .unset, .unset] [(.ref a1)])
    refine own_go (fun t k => XS.iloadN X29.here hx rfl (hb hby at_107) rfl k) ?_
    show own_G p e below _ T29 (mkF m 108 #[.val (.int i0), .val (.ref a1), .val (.int (10 : Int32)), .unset, .unset] [(.int (10 : Int32)), (.ref a1)])
    refine own_go (X29.aaload hx (j := (10 : Int32)) (v := (.ref a_FIRST)) (by rw [e29]; exact A29.1) (State.isArrayOf_alike hZ.alike A29.2.1) rfl A29.2.2 (own_in (n := 14) rfl (by decide)) rfl (g := (mkF m 108 #[.val (.int i0), .val (.ref a1), .val (.int (10 : Int32)), .unset, .unset] [(.int (10 : Int32)), (.ref a1)])) rfl rfl (hb hby at_108)) ?_
    show own_G p e below _ T29 (mkF m 109 #[.val (.int i0), .val (.ref a1), .val (.int (10 : Int32)), .unset, .unset] [(.ref a_FIRST)])
    refine own_go (fun t k => XS.astoreN X29.here hx rfl (hb hby at_109) rfl rfl (l' := #[.val (.int i0), .val (.ref a1), .val (.int (10 : Int32)), .val (.ref a_FIRST), .unset]) rfl k) ?_
    show own_G p e below _ T29 (mkF m 110 #[.val (.int i0), .val (.ref a1), .val (.int (10 : Int32)), .val (.ref a_FIRST), .unset] [])
    refine own_go (fun t k => XS.iloadN X29.here hx rfl (hb hby at_110) rfl k) ?_
    show own_G p e below _ T29 (mkF m 111 #[.val (.int i0), .val (.ref a1), .val (.int (10 : Int32)), .val (.ref a_FIRST), .unset] [(.int (10 : Int32))])
    refine own_go (fun t k => XS.bipush X29.here hx rfl (hb hby at_111) k) ?_
    show own_G p e below _ T29 (mkF m 113 #[.val (.int i0), .val (.ref a1), .val (.int (10 : Int32)), .val (.ref a_FIRST), .unset] [(.int (8 : Int32)), (.int (10 : Int32))])
    refine own_go (fun t k => XS.icmpNo X29.here hx rfl (hb hby at_113) rfl (by decide) k) ?_
    show own_G p e below _ T29 (mkF m 116 #[.val (.int i0), .val (.ref a1), .val (.int (10 : Int32)), .val (.ref a_FIRST), .unset] [])
    refine own_go (fun t k => XS.iloadN X29.here hx rfl (hb hby at_116) rfl k) ?_
    show own_G p e below _ T29 (mkF m 117 #[.val (.int i0), .val (.ref a1), .val (.int (10 : Int32)), .val (.ref a_FIRST), .unset] [(.int (10 : Int32))])
    refine own_go (fun t k => XS.bipush X29.here hx rfl (hb hby at_117) k) ?_
    show own_G p e below _ T29 (mkF m 119 #[.val (.int i0), .val (.ref a1), .val (.int (10 : Int32)), .val (.ref a_FIRST), .unset] [(.int (12 : Int32)), (.int (10 : Int32))])
    refine own_go (fun t k => XS.icmpNo X29.here hx rfl (hb hby at_119) rfl (by decide) k) ?_
    show own_G p e below _ T29 (mkF m 122 #[.val (.int i0), .val (.ref a1), .val (.int (10 : Int32)), .val (.ref a_FIRST), .unset] [])
    refine own_go (fun t k => XS.iconst X29.here hx rfl (hb hby at_122) k) ?_
    show own_G p e below _ T29 (mkF m 123 #[.val (.int i0), .val (.ref a1), .val (.int (10 : Int32)), .val (.ref a_FIRST), .unset] [(.int (1 : Int32))])
    refine own_go (fun t k => XS.goto X29.here hx rfl (pc0 := 123) (pc' := 127) rfl (hb hby at_123) (by decide) (by decide) k) ?_
    show own_G p e below _ T29 (mkF m 127 #[.val (.int i0), .val (.ref a1), .val (.int (10 : Int32)), .val (.ref a_FIRST), .unset] [(.int (1 : Int32))])
    refine own_go (fun t k => XS.istore X29.here hx rfl (hb hby at_127) rfl (l' := #[.val (.int i0), .val (.ref a1), .val (.int (10 : Int32)), .val (.ref a_FIRST), .val (.int (1 : Int32))]) rfl k) ?_
    show own_G p e below _ T29 (mkF m 129 #[.val (.int i0), .val (.ref a1), .val (.int (10 : Int32)), .val (.ref a_FIRST), .val (.int (1 : Int32))] [])
    refine own_go (fun t k => XS.aloadN X29.here hx rfl (hb hby at_129) rfl rfl k) ?_
    show own_G p e below _ T29 (mkF m 130 #[.val (.int i0), .val (.ref a1), .val (.int (10 : Int32)), .val (.ref a_FIRST), .val (.int (1 : Int32))] [(.ref a_FIRST)])
    obtain ⟨T41, L41, v41, X41, ⟨rfl, rfl, q41⟩, st41⟩ := own_callV X29 hx hZ (y := (⟨"com/example/locktop/locktop/view/Key", "steps", "()Z"⟩ : MethodName)) (z := (⟨"com/example/locktop/locktop/view/Key", "steps", "()Z"⟩ : MethodName)) hown (hw _ (List.mem_of_getElem? (i := 33) rfl)) (hw _ (List.mem_of_getElem? (i := 34) rfl)) (hw _ (List.mem_of_getElem? (i := 36) rfl)) (hw _ (List.mem_of_getElem? (i := 36) rfl)) (hw _ (List.mem_of_getElem? (i := 35) rfl)) (hw _ (List.mem_of_getElem? (i := 37) rfl)) (hw _ (List.mem_of_getElem? (i := 3) rfl)) (notFace_of_selects (args := #[]) (mvT hZ (hw _ (List.mem_of_getElem? (i := 36) rfl)))) (by decide) (c_steps l Z a0 hw a_UP a_DOWN a_ENTER a_ESCAPE a_CANCEL a_TERMINATE a_YES a_QUIT a_PREVIOUS a_NEXT a_FIRST a_LAST a_MOST_WAITING a_OTHER a_FIRST h29 (own_B_ext x29 B) ) e29 (E_FIRST.ext x29) (argsL := []) (rest := []) (g := (mkF m 130 #[.val (.int i0), .val (.ref a1), .val (.int (10 : Int32)), .val (.ref a_FIRST), .val (.int (1 : Int32))] [(.ref a_FIRST)])) rfl (by rw [hml]; rfl) (ps := []) (r := (some .boolean)) (by decide +kernel) rfl rfl (W := 0) (by show 2 * 0 + _ ≤ _; exact Nat.le_of_eq rfl) (hb hby at_130) (by decide) (by decide) (by decide) (by decide)
    have N41 := Fr.app N29 (Fr.nil n0)
    refine own_go st41 ?_
    show own_G p e below _ T41 (mkF m 133 #[.val (.int i0), .val (.ref a1), .val (.int (10 : Int32)), .val (.ref a_FIRST), .val (.int (1 : Int32))] [(.int (own_steps a_UP a_DOWN a_ENTER a_ESCAPE a_CANCEL a_TERMINATE a_YES a_QUIT a_PREVIOUS a_NEXT a_FIRST a_LAST a_MOST_WAITING a_OTHER a_FIRST))])
    have r41 : (own_steps a_UP a_DOWN a_ENTER a_ESCAPE a_CANCEL a_TERMINATE a_YES a_QUIT a_PREVIOUS a_NEXT a_FIRST a_LAST a_MOST_WAITING a_OTHER a_FIRST) = (1 : Int32) := by unfold own_steps; rw [if_neg (Fld.ne F_FIRST_ordinal F_PREVIOUS_ordinal (own_neV (by decide))), if_neg (Fld.ne F_FIRST_ordinal F_NEXT_ordinal (own_neV (by decide))), if_pos (rfl : a_FIRST = a_FIRST)]; rfl
    rw [r41]
    show own_G p e below _ T41 (mkF m 133 #[.val (.int i0), .val (.ref a1), .val (.int (10 : Int32)), .val (.ref a_FIRST), .val (.int (1 : Int32))] [(.int (1 : Int32))])
    refine own_go (fun t k => XS.iload X41.here hx rfl (hb hby at_133) rfl k) ?_
    show own_G p e below _ T41 (mkF m 135 #[.val (.int i0), .val (.ref a1), .val (.int (10 : Int32)), .val (.ref a_FIRST), .val (.int (1 : Int32))] [(.int (1 : Int32)), (.int (1 : Int32))])
    refine own_go (fun t k => XS.icmpNo X41.here hx rfl (hb hby at_135) rfl (by decide) k) ?_
    show own_G p e below _ T41 (mkF m 138 #[.val (.int i0), .val (.ref a1), .val (.int (10 : Int32)), .val (.ref a_FIRST), .val (.int (1 : Int32))] [])
    refine own_go (fun t k => XS.iconst X41.here hx rfl (hb hby at_138) k) ?_
    show own_G p e below _ T41 (mkF m 139 #[.val (.int i0), .val (.ref a1), .val (.int (10 : Int32)), .val (.ref a_FIRST), .val (.int (1 : Int32))] [(.int (1 : Int32))])
    refine own_go (fun t k => XS.goto X41.here hx rfl (pc0 := 139) (pc' := 143) rfl (hb hby at_139) (by decide) (by decide) k) ?_
    show own_G p e below _ T41 (mkF m 143 #[.val (.int i0), .val (.ref a1), .val (.int (10 : Int32)), .val (.ref a_FIRST), .val (.int (1 : Int32))] [(.int (1 : Int32))])
    exact own_retN X41 hx hlk hret (by simp) (hb hby at_143) (by decide) (by decide) ⟨rfl, N41⟩
  · rw [hk30]
    show own_G p e below _ T29 (mkF m 105 #[.val (.int i0), .val (.ref a1), .unset, .unset, .unset] [(.int (11 : Int32))])
    refine own_go (fun t k => XS.istoreN X29.here hx rfl (hb hby at_105) rfl (l' := #[.val (.int i0), .val (.ref a1), .val (.int (11 : Int32)), .unset, .unset]) rfl k) ?_
    show own_G p e below _ T29 (mkF m 106 #[.val (.int i0), .val (.ref a1), .val (.int (11 : Int32)), .unset, .unset] [])
    refine own_go (fun t k => XS.aloadN X29.here hx rfl (hb hby at_106) rfl rfl k) ?_
    show own_G p e below _ T29 (mkF m 107 #[.val (.int i0), .val (.ref a1), .val (.int (11 : Int32)), .unset, .unset] [(.ref a1)])
    refine own_go (fun t k => XS.iloadN X29.here hx rfl (hb hby at_107) rfl k) ?_
    show own_G p e below _ T29 (mkF m 108 #[.val (.int i0), .val (.ref a1), .val (.int (11 : Int32)), .unset, .unset] [(.int (11 : Int32)), (.ref a1)])
    refine own_go (X29.aaload hx (j := (11 : Int32)) (v := (.ref a_LAST)) (by rw [e29]; exact A29.1) (State.isArrayOf_alike hZ.alike A29.2.1) rfl A29.2.2 (own_in (n := 14) rfl (by decide)) rfl (g := (mkF m 108 #[.val (.int i0), .val (.ref a1), .val (.int (11 : Int32)), .unset, .unset] [(.int (11 : Int32)), (.ref a1)])) rfl rfl (hb hby at_108)) ?_
    show own_G p e below _ T29 (mkF m 109 #[.val (.int i0), .val (.ref a1), .val (.int (11 : Int32)), .unset, .unset] [(.ref a_LAST)])
    refine own_go (fun t k => XS.astoreN X29.here hx rfl (hb hby at_109) rfl rfl (l' := #[.val (.int i0), .val (.ref a1), .val (.int (11 : Int32)), .val (.ref a_LAST), .unset]) rfl k) ?_
    show own_G p e below _ T29 (mkF m 110 #[.val (.int i0), .val (.ref a1), .val (.int (11 : Int32)), .val (.ref a_LAST), .unset] [])
    refine own_go (fun t k => XS.iloadN X29.here hx rfl (hb hby at_110) rfl k) ?_
    show own_G p e below _ T29 (mkF m 111 #[.val (.int i0), .val (.ref a1), .val (.int (11 : Int32)), .val (.ref a_LAST), .unset] [(.int (11 : Int32))])
    refine own_go (fun t k => XS.bipush X29.here hx rfl (hb hby at_111) k) ?_
    show own_G p e below _ T29 (mkF m 113 #[.val (.int i0), .val (.ref a1), .val (.int (11 : Int32)), .val (.ref a_LAST), .unset] [(.int (8 : Int32)), (.int (11 : Int32))])
    refine own_go (fun t k => XS.icmpNo X29.here hx rfl (hb hby at_113) rfl (by decide) k) ?_
    show own_G p e below _ T29 (mkF m 116 #[.val (.int i0), .val (.ref a1), .val (.int (11 : Int32)), .val (.ref a_LAST), .unset] [])
    refine own_go (fun t k => XS.iloadN X29.here hx rfl (hb hby at_116) rfl k) ?_
    show own_G p e below _ T29 (mkF m 117 #[.val (.int i0), .val (.ref a1), .val (.int (11 : Int32)), .val (.ref a_LAST), .unset] [(.int (11 : Int32))])
    refine own_go (fun t k => XS.bipush X29.here hx rfl (hb hby at_117) k) ?_
    show own_G p e below _ T29 (mkF m 119 #[.val (.int i0), .val (.ref a1), .val (.int (11 : Int32)), .val (.ref a_LAST), .unset] [(.int (12 : Int32)), (.int (11 : Int32))])
    refine own_go (fun t k => XS.icmpNo X29.here hx rfl (hb hby at_119) rfl (by decide) k) ?_
    show own_G p e below _ T29 (mkF m 122 #[.val (.int i0), .val (.ref a1), .val (.int (11 : Int32)), .val (.ref a_LAST), .unset] [])
    refine own_go (fun t k => XS.iconst X29.here hx rfl (hb hby at_122) k) ?_
    show own_G p e below _ T29 (mkF m 123 #[.val (.int i0), .val (.ref a1), .val (.int (11 : Int32)), .val (.ref a_LAST), .unset] [(.int (1 : Int32))])
    refine own_go (fun t k => XS.goto X29.here hx rfl (pc0 := 123) (pc' := 127) rfl (hb hby at_123) (by decide) (by decide) k) ?_
    show own_G p e below _ T29 (mkF m 127 #[.val (.int i0), .val (.ref a1), .val (.int (11 : Int32)), .val (.ref a_LAST), .unset] [(.int (1 : Int32))])
    refine own_go (fun t k => XS.istore X29.here hx rfl (hb hby at_127) rfl (l' := #[.val (.int i0), .val (.ref a1), .val (.int (11 : Int32)), .val (.ref a_LAST), .val (.int (1 : Int32))]) rfl k) ?_
    show own_G p e below _ T29 (mkF m 129 #[.val (.int i0), .val (.ref a1), .val (.int (11 : Int32)), .val (.ref a_LAST), .val (.int (1 : Int32))] [])
    refine own_go (fun t k => XS.aloadN X29.here hx rfl (hb hby at_129) rfl rfl k) ?_
    show own_G p e below _ T29 (mkF m 130 #[.val (.int i0), .val (.ref a1), .val (.int (11 : Int32)), .val (.ref a_LAST), .val (.int (1 : Int32))] [(.ref a_LAST)])
    obtain ⟨T42, L42, v42, X42, ⟨rfl, rfl, q42⟩, st42⟩ := own_callV X29 hx hZ (y := (⟨"com/example/locktop/locktop/view/Key", "steps", "()Z"⟩ : MethodName)) (z := (⟨"com/example/locktop/locktop/view/Key", "steps", "()Z"⟩ : MethodName)) hown (hw _ (List.mem_of_getElem? (i := 33) rfl)) (hw _ (List.mem_of_getElem? (i := 34) rfl)) (hw _ (List.mem_of_getElem? (i := 36) rfl)) (hw _ (List.mem_of_getElem? (i := 36) rfl)) (hw _ (List.mem_of_getElem? (i := 35) rfl)) (hw _ (List.mem_of_getElem? (i := 37) rfl)) (hw _ (List.mem_of_getElem? (i := 3) rfl)) (notFace_of_selects (args := #[]) (mvT hZ (hw _ (List.mem_of_getElem? (i := 36) rfl)))) (by decide) (c_steps l Z a0 hw a_UP a_DOWN a_ENTER a_ESCAPE a_CANCEL a_TERMINATE a_YES a_QUIT a_PREVIOUS a_NEXT a_FIRST a_LAST a_MOST_WAITING a_OTHER a_LAST h29 (own_B_ext x29 B) ) e29 (E_LAST.ext x29) (argsL := []) (rest := []) (g := (mkF m 130 #[.val (.int i0), .val (.ref a1), .val (.int (11 : Int32)), .val (.ref a_LAST), .val (.int (1 : Int32))] [(.ref a_LAST)])) rfl (by rw [hml]; rfl) (ps := []) (r := (some .boolean)) (by decide +kernel) rfl rfl (W := 0) (by show 2 * 0 + _ ≤ _; exact Nat.le_of_eq rfl) (hb hby at_130) (by decide) (by decide) (by decide) (by decide)
    have N42 := Fr.app N29 (Fr.nil n0)
    refine own_go st42 ?_
    show own_G p e below _ T42 (mkF m 133 #[.val (.int i0), .val (.ref a1), .val (.int (11 : Int32)), .val (.ref a_LAST), .val (.int (1 : Int32))] [(.int (own_steps a_UP a_DOWN a_ENTER a_ESCAPE a_CANCEL a_TERMINATE a_YES a_QUIT a_PREVIOUS a_NEXT a_FIRST a_LAST a_MOST_WAITING a_OTHER a_LAST))])
    have r42 : (own_steps a_UP a_DOWN a_ENTER a_ESCAPE a_CANCEL a_TERMINATE a_YES a_QUIT a_PREVIOUS a_NEXT a_FIRST a_LAST a_MOST_WAITING a_OTHER a_LAST) = (1 : Int32) := by unfold own_steps; rw [if_neg (Fld.ne F_LAST_ordinal F_PREVIOUS_ordinal (own_neV (by decide))), if_neg (Fld.ne F_LAST_ordinal F_NEXT_ordinal (own_neV (by decide))), if_neg (Fld.ne F_LAST_ordinal F_FIRST_ordinal (own_neV (by decide))), if_pos (rfl : a_LAST = a_LAST)]; rfl
    rw [r42]
    show own_G p e below _ T42 (mkF m 133 #[.val (.int i0), .val (.ref a1), .val (.int (11 : Int32)), .val (.ref a_LAST), .val (.int (1 : Int32))] [(.int (1 : Int32))])
    refine own_go (fun t k => XS.iload X42.here hx rfl (hb hby at_133) rfl k) ?_
    show own_G p e below _ T42 (mkF m 135 #[.val (.int i0), .val (.ref a1), .val (.int (11 : Int32)), .val (.ref a_LAST), .val (.int (1 : Int32))] [(.int (1 : Int32)), (.int (1 : Int32))])
    refine own_go (fun t k => XS.icmpNo X42.here hx rfl (hb hby at_135) rfl (by decide) k) ?_
    show own_G p e below _ T42 (mkF m 138 #[.val (.int i0), .val (.ref a1), .val (.int (11 : Int32)), .val (.ref a_LAST), .val (.int (1 : Int32))] [])
    refine own_go (fun t k => XS.iconst X42.here hx rfl (hb hby at_138) k) ?_
    show own_G p e below _ T42 (mkF m 139 #[.val (.int i0), .val (.ref a1), .val (.int (11 : Int32)), .val (.ref a_LAST), .val (.int (1 : Int32))] [(.int (1 : Int32))])
    refine own_go (fun t k => XS.goto X42.here hx rfl (pc0 := 139) (pc' := 143) rfl (hb hby at_139) (by decide) (by decide) k) ?_
    show own_G p e below _ T42 (mkF m 143 #[.val (.int i0), .val (.ref a1), .val (.int (11 : Int32)), .val (.ref a_LAST), .val (.int (1 : Int32))] [(.int (1 : Int32))])
    exact own_retN X42 hx hlk hret (by simp) (hb hby at_143) (by decide) (by decide) ⟨rfl, N42⟩
  · rw [hk30]
    show own_G p e below _ T29 (mkF m 105 #[.val (.int i0), .val (.ref a1), .unset, .unset, .unset] [(.int (12 : Int32))])
    refine own_go (fun t k => XS.istoreN X29.here hx rfl (hb hby at_105) rfl (l' := #[.val (.int i0), .val (.ref a1), .val (.int (12 : Int32)), .unset, .unset]) rfl k) ?_
    show own_G p e below _ T29 (mkF m 106 #[.val (.int i0), .val (.ref a1), .val (.int (12 : Int32)), .unset, .unset] [])
    refine own_go (fun t k => XS.aloadN X29.here hx rfl (hb hby at_106) rfl rfl k) ?_
    show own_G p e below _ T29 (mkF m 107 #[.val (.int i0), .val (.ref a1), .val (.int (12 : Int32)), .unset, .unset] [(.ref a1)])
    refine own_go (fun t k => XS.iloadN X29.here hx rfl (hb hby at_107) rfl k) ?_
    show own_G p e below _ T29 (mkF m 108 #[.val (.int i0), .val (.ref a1), .val (.int (12 : Int32)), .unset, .unset] [(.int (12 : Int32)), (.ref a1)])
    refine own_go (X29.aaload hx (j := (12 : Int32)) (v := (.ref a_MOST_WAITING)) (by rw [e29]; exact A29.1) (State.isArrayOf_alike hZ.alike A29.2.1) rfl A29.2.2 (own_in (n := 14) rfl (by decide)) rfl (g := (mkF m 108 #[.val (.int i0), .val (.ref a1), .val (.int (12 : Int32)), .unset, .unset] [(.int (12 : Int32)), (.ref a1)])) rfl rfl (hb hby at_108)) ?_
    show own_G p e below _ T29 (mkF m 109 #[.val (.int i0), .val (.ref a1), .val (.int (12 : Int32)), .unset, .unset] [(.ref a_MOST_WAITING)])
    refine own_go (fun t k => XS.astoreN X29.here hx rfl (hb hby at_109) rfl rfl (l' := #[.val (.int i0), .val (.ref a1), .val (.int (12 : Int32)), .val (.ref a_MOST_WAITING), .unset]) rfl k) ?_
    show own_G p e below _ T29 (mkF m 110 #[.val (.int i0), .val (.ref a1), .val (.int (12 : Int32)), .val (.ref a_MOST_WAITING), .unset] [])
    refine own_go (fun t k => XS.iloadN X29.here hx rfl (hb hby at_110) rfl k) ?_
    show own_G p e below _ T29 (mkF m 111 #[.val (.int i0), .val (.ref a1), .val (.int (12 : Int32)), .val (.ref a_MOST_WAITING), .unset] [(.int (12 : Int32))])
    refine own_go (fun t k => XS.bipush X29.here hx rfl (hb hby at_111) k) ?_
    show own_G p e below _ T29 (mkF m 113 #[.val (.int i0), .val (.ref a1), .val (.int (12 : Int32)), .val (.ref a_MOST_WAITING), .unset] [(.int (8 : Int32)), (.int (12 : Int32))])
    refine own_go (fun t k => XS.icmpNo X29.here hx rfl (hb hby at_113) rfl (by decide) k) ?_
    show own_G p e below _ T29 (mkF m 116 #[.val (.int i0), .val (.ref a1), .val (.int (12 : Int32)), .val (.ref a_MOST_WAITING), .unset] [])
    refine own_go (fun t k => XS.iloadN X29.here hx rfl (hb hby at_116) rfl k) ?_
    show own_G p e below _ T29 (mkF m 117 #[.val (.int i0), .val (.ref a1), .val (.int (12 : Int32)), .val (.ref a_MOST_WAITING), .unset] [(.int (12 : Int32))])
    refine own_go (fun t k => XS.bipush X29.here hx rfl (hb hby at_117) k) ?_
    show own_G p e below _ T29 (mkF m 119 #[.val (.int i0), .val (.ref a1), .val (.int (12 : Int32)), .val (.ref a_MOST_WAITING), .unset] [(.int (12 : Int32)), (.int (12 : Int32))])
    refine own_go (fun t k => XS.icmpNo X29.here hx rfl (hb hby at_119) rfl (by decide) k) ?_
    show own_G p e below _ T29 (mkF m 122 #[.val (.int i0), .val (.ref a1), .val (.int (12 : Int32)), .val (.ref a_MOST_WAITING), .unset] [])
    refine own_go (fun t k => XS.iconst X29.here hx rfl (hb hby at_122) k) ?_
    show own_G p e below _ T29 (mkF m 123 #[.val (.int i0), .val (.ref a1), .val (.int (12 : Int32)), .val (.ref a_MOST_WAITING), .unset] [(.int (1 : Int32))])
    refine own_go (fun t k => XS.goto X29.here hx rfl (pc0 := 123) (pc' := 127) rfl (hb hby at_123) (by decide) (by decide) k) ?_
    show own_G p e below _ T29 (mkF m 127 #[.val (.int i0), .val (.ref a1), .val (.int (12 : Int32)), .val (.ref a_MOST_WAITING), .unset] [(.int (1 : Int32))])
    refine own_go (fun t k => XS.istore X29.here hx rfl (hb hby at_127) rfl (l' := #[.val (.int i0), .val (.ref a1), .val (.int (12 : Int32)), .val (.ref a_MOST_WAITING), .val (.int (1 : Int32))]) rfl k) ?_
    show own_G p e below _ T29 (mkF m 129 #[.val (.int i0), .val (.ref a1), .val (.int (12 : Int32)), .val (.ref a_MOST_WAITING), .val (.int (1 : Int32))] [])
    refine own_go (fun t k => XS.aloadN X29.here hx rfl (hb hby at_129) rfl rfl k) ?_
    show own_G p e below _ T29 (mkF m 130 #[.val (.int i0), .val (.ref a1), .val (.int (12 : Int32)), .val (.ref a_MOST_WAITING), .val (.int (1 : Int32))] [(.ref a_MOST_WAITING)])
    obtain ⟨T43, L43, v43, X43, ⟨rfl, rfl, q43⟩, st43⟩ := own_callV X29 hx hZ (y := (⟨"com/example/locktop/locktop/view/Key", "steps", "()Z"⟩ : MethodName)) (z := (⟨"com/example/locktop/locktop/view/Key", "steps", "()Z"⟩ : MethodName)) hown (hw _ (List.mem_of_getElem? (i := 33) rfl)) (hw _ (List.mem_of_getElem? (i := 34) rfl)) (hw _ (List.mem_of_getElem? (i := 36) rfl)) (hw _ (List.mem_of_getElem? (i := 36) rfl)) (hw _ (List.mem_of_getElem? (i := 35) rfl)) (hw _ (List.mem_of_getElem? (i := 37) rfl)) (hw _ (List.mem_of_getElem? (i := 3) rfl)) (notFace_of_selects (args := #[]) (mvT hZ (hw _ (List.mem_of_getElem? (i := 36) rfl)))) (by decide) (c_steps l Z a0 hw a_UP a_DOWN a_ENTER a_ESCAPE a_CANCEL a_TERMINATE a_YES a_QUIT a_PREVIOUS a_NEXT a_FIRST a_LAST a_MOST_WAITING a_OTHER a_MOST_WAITING h29 (own_B_ext x29 B) ) e29 (E_MOST_WAITING.ext x29) (argsL := []) (rest := []) (g := (mkF m 130 #[.val (.int i0), .val (.ref a1), .val (.int (12 : Int32)), .val (.ref a_MOST_WAITING), .val (.int (1 : Int32))] [(.ref a_MOST_WAITING)])) rfl (by rw [hml]; rfl) (ps := []) (r := (some .boolean)) (by decide +kernel) rfl rfl (W := 0) (by show 2 * 0 + _ ≤ _; exact Nat.le_of_eq rfl) (hb hby at_130) (by decide) (by decide) (by decide) (by decide)
    have N43 := Fr.app N29 (Fr.nil n0)
    refine own_go st43 ?_
    show own_G p e below _ T43 (mkF m 133 #[.val (.int i0), .val (.ref a1), .val (.int (12 : Int32)), .val (.ref a_MOST_WAITING), .val (.int (1 : Int32))] [(.int (own_steps a_UP a_DOWN a_ENTER a_ESCAPE a_CANCEL a_TERMINATE a_YES a_QUIT a_PREVIOUS a_NEXT a_FIRST a_LAST a_MOST_WAITING a_OTHER a_MOST_WAITING))])
    have r43 : (own_steps a_UP a_DOWN a_ENTER a_ESCAPE a_CANCEL a_TERMINATE a_YES a_QUIT a_PREVIOUS a_NEXT a_FIRST a_LAST a_MOST_WAITING a_OTHER a_MOST_WAITING) = (1 : Int32) := by unfold own_steps; rw [if_neg (Fld.ne F_MOST_WAITING_ordinal F_PREVIOUS_ordinal (own_neV (by decide))), if_neg (Fld.ne F_MOST_WAITING_ordinal F_NEXT_ordinal (own_neV (by decide))), if_neg (Fld.ne F_MOST_WAITING_ordinal F_FIRST_ordinal (own_neV (by decide))), if_neg (Fld.ne F_MOST_WAITING_ordinal F_LAST_ordinal (own_neV (by decide))), if_pos (rfl : a_MOST_WAITING = a_MOST_WAITING)]; rfl
    rw [r43]
    show own_G p e below _ T43 (mkF m 133 #[.val (.int i0), .val (.ref a1), .val (.int (12 : Int32)), .val (.ref a_MOST_WAITING), .val (.int (1 : Int32))] [(.int (1 : Int32))])
    refine own_go (fun t k => XS.iload X43.here hx rfl (hb hby at_133) rfl k) ?_
    show own_G p e below _ T43 (mkF m 135 #[.val (.int i0), .val (.ref a1), .val (.int (12 : Int32)), .val (.ref a_MOST_WAITING), .val (.int (1 : Int32))] [(.int (1 : Int32)), (.int (1 : Int32))])
    refine own_go (fun t k => XS.icmpNo X43.here hx rfl (hb hby at_135) rfl (by decide) k) ?_
    show own_G p e below _ T43 (mkF m 138 #[.val (.int i0), .val (.ref a1), .val (.int (12 : Int32)), .val (.ref a_MOST_WAITING), .val (.int (1 : Int32))] [])
    refine own_go (fun t k => XS.iconst X43.here hx rfl (hb hby at_138) k) ?_
    show own_G p e below _ T43 (mkF m 139 #[.val (.int i0), .val (.ref a1), .val (.int (12 : Int32)), .val (.ref a_MOST_WAITING), .val (.int (1 : Int32))] [(.int (1 : Int32))])
    refine own_go (fun t k => XS.goto X43.here hx rfl (pc0 := 139) (pc' := 143) rfl (hb hby at_139) (by decide) (by decide) k) ?_
    show own_G p e below _ T43 (mkF m 143 #[.val (.int i0), .val (.ref a1), .val (.int (12 : Int32)), .val (.ref a_MOST_WAITING), .val (.int (1 : Int32))] [(.int (1 : Int32))])
    exact own_retN X43 hx hlk hret (by simp) (hb hby at_143) (by decide) (by decide) ⟨rfl, N43⟩
  · rw [hk30]
    show own_G p e below _ T29 (mkF m 105 #[.val (.int i0), .val (.ref a1), .unset, .unset, .unset] [(.int (13 : Int32))])
    refine own_go (fun t k => XS.istoreN X29.here hx rfl (hb hby at_105) rfl (l' := #[.val (.int i0), .val (.ref a1), .val (.int (13 : Int32)), .unset, .unset]) rfl k) ?_
    show own_G p e below _ T29 (mkF m 106 #[.val (.int i0), .val (.ref a1), .val (.int (13 : Int32)), .unset, .unset] [])
    refine own_go (fun t k => XS.aloadN X29.here hx rfl (hb hby at_106) rfl rfl k) ?_
    show own_G p e below _ T29 (mkF m 107 #[.val (.int i0), .val (.ref a1), .val (.int (13 : Int32)), .unset, .unset] [(.ref a1)])
    refine own_go (fun t k => XS.iloadN X29.here hx rfl (hb hby at_107) rfl k) ?_
    show own_G p e below _ T29 (mkF m 108 #[.val (.int i0), .val (.ref a1), .val (.int (13 : Int32)), .unset, .unset] [(.int (13 : Int32)), (.ref a1)])
    refine own_go (X29.aaload hx (j := (13 : Int32)) (v := (.ref a_OTHER)) (by rw [e29]; exact A29.1) (State.isArrayOf_alike hZ.alike A29.2.1) rfl A29.2.2 (own_in (n := 14) rfl (by decide)) rfl (g := (mkF m 108 #[.val (.int i0), .val (.ref a1), .val (.int (13 : Int32)), .unset, .unset] [(.int (13 : Int32)), (.ref a1)])) rfl rfl (hb hby at_108)) ?_
    show own_G p e below _ T29 (mkF m 109 #[.val (.int i0), .val (.ref a1), .val (.int (13 : Int32)), .unset, .unset] [(.ref a_OTHER)])
    refine own_go (fun t k => XS.astoreN X29.here hx rfl (hb hby at_109) rfl rfl (l' := #[.val (.int i0), .val (.ref a1), .val (.int (13 : Int32)), .val (.ref a_OTHER), .unset]) rfl k) ?_
    show own_G p e below _ T29 (mkF m 110 #[.val (.int i0), .val (.ref a1), .val (.int (13 : Int32)), .val (.ref a_OTHER), .unset] [])
    refine own_go (fun t k => XS.iloadN X29.here hx rfl (hb hby at_110) rfl k) ?_
    show own_G p e below _ T29 (mkF m 111 #[.val (.int i0), .val (.ref a1), .val (.int (13 : Int32)), .val (.ref a_OTHER), .unset] [(.int (13 : Int32))])
    refine own_go (fun t k => XS.bipush X29.here hx rfl (hb hby at_111) k) ?_
    show own_G p e below _ T29 (mkF m 113 #[.val (.int i0), .val (.ref a1), .val (.int (13 : Int32)), .val (.ref a_OTHER), .unset] [(.int (8 : Int32)), (.int (13 : Int32))])
    refine own_go (fun t k => XS.icmpNo X29.here hx rfl (hb hby at_113) rfl (by decide) k) ?_
    show own_G p e below _ T29 (mkF m 116 #[.val (.int i0), .val (.ref a1), .val (.int (13 : Int32)), .val (.ref a_OTHER), .unset] [])
    refine own_go (fun t k => XS.iloadN X29.here hx rfl (hb hby at_116) rfl k) ?_
    show own_G p e below _ T29 (mkF m 117 #[.val (.int i0), .val (.ref a1), .val (.int (13 : Int32)), .val (.ref a_OTHER), .unset] [(.int (13 : Int32))])
    refine own_go (fun t k => XS.bipush X29.here hx rfl (hb hby at_117) k) ?_
    show own_G p e below _ T29 (mkF m 119 #[.val (.int i0), .val (.ref a1), .val (.int (13 : Int32)), .val (.ref a_OTHER), .unset] [(.int (12 : Int32)), (.int (13 : Int32))])
    refine own_go (fun t k => XS.icmpYes X29.here hx rfl (pc0 := 119) (pc' := 126) rfl (hb hby at_119) rfl (by decide) (by decide) (by decide) k) ?_
    show own_G p e below _ T29 (mkF m 126 #[.val (.int i0), .val (.ref a1), .val (.int (13 : Int32)), .val (.ref a_OTHER), .unset] [])
    refine own_go (fun t k => XS.iconst X29.here hx rfl (hb hby at_126) k) ?_
    show own_G p e below _ T29 (mkF m 127 #[.val (.int i0), .val (.ref a1), .val (.int (13 : Int32)), .val (.ref a_OTHER), .unset] [(.int (0 : Int32))])
    refine own_go (fun t k => XS.istore X29.here hx rfl (hb hby at_127) rfl (l' := #[.val (.int i0), .val (.ref a1), .val (.int (13 : Int32)), .val (.ref a_OTHER), .val (.int (0 : Int32))]) rfl k) ?_
    show own_G p e below _ T29 (mkF m 129 #[.val (.int i0), .val (.ref a1), .val (.int (13 : Int32)), .val (.ref a_OTHER), .val (.int (0 : Int32))] [])
    refine own_go (fun t k => XS.aloadN X29.here hx rfl (hb hby at_129) rfl rfl k) ?_
    show own_G p e below _ T29 (mkF m 130 #[.val (.int i0), .val (.ref a1), .val (.int (13 : Int32)), .val (.ref a_OTHER), .val (.int (0 : Int32))] [(.ref a_OTHER)])
    obtain ⟨T44, L44, v44, X44, ⟨rfl, rfl, q44⟩, st44⟩ := own_callV X29 hx hZ (y := (⟨"com/example/locktop/locktop/view/Key", "steps", "()Z"⟩ : MethodName)) (z := (⟨"com/example/locktop/locktop/view/Key", "steps", "()Z"⟩ : MethodName)) hown (hw _ (List.mem_of_getElem? (i := 33) rfl)) (hw _ (List.mem_of_getElem? (i := 34) rfl)) (hw _ (List.mem_of_getElem? (i := 36) rfl)) (hw _ (List.mem_of_getElem? (i := 36) rfl)) (hw _ (List.mem_of_getElem? (i := 35) rfl)) (hw _ (List.mem_of_getElem? (i := 37) rfl)) (hw _ (List.mem_of_getElem? (i := 3) rfl)) (notFace_of_selects (args := #[]) (mvT hZ (hw _ (List.mem_of_getElem? (i := 36) rfl)))) (by decide) (c_steps l Z a0 hw a_UP a_DOWN a_ENTER a_ESCAPE a_CANCEL a_TERMINATE a_YES a_QUIT a_PREVIOUS a_NEXT a_FIRST a_LAST a_MOST_WAITING a_OTHER a_OTHER h29 (own_B_ext x29 B) ) e29 (E_OTHER.ext x29) (argsL := []) (rest := []) (g := (mkF m 130 #[.val (.int i0), .val (.ref a1), .val (.int (13 : Int32)), .val (.ref a_OTHER), .val (.int (0 : Int32))] [(.ref a_OTHER)])) rfl (by rw [hml]; rfl) (ps := []) (r := (some .boolean)) (by decide +kernel) rfl rfl (W := 0) (by show 2 * 0 + _ ≤ _; exact Nat.le_of_eq rfl) (hb hby at_130) (by decide) (by decide) (by decide) (by decide)
    have N44 := Fr.app N29 (Fr.nil n0)
    refine own_go st44 ?_
    show own_G p e below _ T44 (mkF m 133 #[.val (.int i0), .val (.ref a1), .val (.int (13 : Int32)), .val (.ref a_OTHER), .val (.int (0 : Int32))] [(.int (own_steps a_UP a_DOWN a_ENTER a_ESCAPE a_CANCEL a_TERMINATE a_YES a_QUIT a_PREVIOUS a_NEXT a_FIRST a_LAST a_MOST_WAITING a_OTHER a_OTHER))])
    have r44 : (own_steps a_UP a_DOWN a_ENTER a_ESCAPE a_CANCEL a_TERMINATE a_YES a_QUIT a_PREVIOUS a_NEXT a_FIRST a_LAST a_MOST_WAITING a_OTHER a_OTHER) = (0 : Int32) := by unfold own_steps; rw [if_neg (Fld.ne F_OTHER_ordinal F_PREVIOUS_ordinal (own_neV (by decide))), if_neg (Fld.ne F_OTHER_ordinal F_NEXT_ordinal (own_neV (by decide))), if_neg (Fld.ne F_OTHER_ordinal F_FIRST_ordinal (own_neV (by decide))), if_neg (Fld.ne F_OTHER_ordinal F_LAST_ordinal (own_neV (by decide))), if_neg (Fld.ne F_OTHER_ordinal F_MOST_WAITING_ordinal (own_neV (by decide)))]; rfl
    rw [r44]
    show own_G p e below _ T44 (mkF m 133 #[.val (.int i0), .val (.ref a1), .val (.int (13 : Int32)), .val (.ref a_OTHER), .val (.int (0 : Int32))] [(.int (0 : Int32))])
    refine own_go (fun t k => XS.iload X44.here hx rfl (hb hby at_133) rfl k) ?_
    show own_G p e below _ T44 (mkF m 135 #[.val (.int i0), .val (.ref a1), .val (.int (13 : Int32)), .val (.ref a_OTHER), .val (.int (0 : Int32))] [(.int (0 : Int32)), (.int (0 : Int32))])
    refine own_go (fun t k => XS.icmpNo X44.here hx rfl (hb hby at_135) rfl (by decide) k) ?_
    show own_G p e below _ T44 (mkF m 138 #[.val (.int i0), .val (.ref a1), .val (.int (13 : Int32)), .val (.ref a_OTHER), .val (.int (0 : Int32))] [])
    refine own_go (fun t k => XS.iconst X44.here hx rfl (hb hby at_138) k) ?_
    show own_G p e below _ T44 (mkF m 139 #[.val (.int i0), .val (.ref a1), .val (.int (13 : Int32)), .val (.ref a_OTHER), .val (.int (0 : Int32))] [(.int (1 : Int32))])
    refine own_go (fun t k => XS.goto X44.here hx rfl (pc0 := 139) (pc' := 143) rfl (hb hby at_139) (by decide) (by decide) k) ?_
    show own_G p e below _ T44 (mkF m 143 #[.val (.int i0), .val (.ref a1), .val (.int (13 : Int32)), .val (.ref a_OTHER), .val (.int (0 : Int32))] [(.int (1 : Int32))])
    exact own_retN X44 hx hlk hret (by simp) (hb hby at_143) (by decide) (by decide) ⟨rfl, N44⟩
set_option maxRecDepth 65536 in
set_option maxHeartbeats 40000000 in
theorem comes_1 {Post : Tables → Env → Array Value → State → Outcome → State → Prop} (hpost : ∀ tb e args s v u, (limb_1_1.after args s (.returned v) u = true ∧ limb_1_2.after args s (.returned v) u = true ∧ True) → FrameEnd s (.returned v) u (Jvm.fieldLocs frame_1_writes args s ++ Jvm.arrayLocs frame_1_arrays args s ++ Jvm.staticLocs frame_1_statics s) 16 128 → Post tb e args s (.returned v) u) :
    ArmFor flags0 classFile x code maxLocals ret World_1 tables_1 room_1 Calls_1 rest_1 Pre_1 Post := by
  intro l hfl _ _ p e ha hc hk s m args below hf hA hF happ hP
  obtain ⟨hcalls, hrest, hpre⟩ := hP
  obtain ⟨-, -, -, hnamed, -, -, -, hat⟩ := (Spec.applies_iff hf).mp happ
  obtain ⟨hg, hn⟩ := and_e (Cond.before_iff.mp (show (Jvm.Cond.and given_1 narrow_1).before args s = true from hpre))
  obtain ⟨h1, hg⟩ := and_e hg
  obtain ⟨w0, rfl⟩ : ∃ w0 : Value, args = #[w0] := by
    have hs : args.size = 1 := by simpa [Cond.value, given_1] using h1
    obtain ⟨L⟩ := args
    match L, hs with
    | [w0], _ => exact ⟨w0, rfl⟩
  obtain ⟨i0, ei0⟩ := is_v hg
  obtain rfl : w0 = (.int i0) := Option.some.inj ei0
  have hw := fun d (hd : d ∈ tables_1) => atoms_spec (ws := Jvm.Cond.code x code maxLocals ret :: tables_1) hat d (List.mem_cons_of_mem _ hd)
  obtain ⟨n0, hn⟩ := and_e hn
  obtain ⟨a_UP, v_UP⟩ := exa_v n0
  have S_UP := Sta.start v_UP (Or.inr ⟨(hw _ (List.mem_of_getElem? (i := 3) rfl)), (hw _ (List.mem_of_getElem? (i := 4) rfl))⟩)
  have E_UP := Exa.start v_UP n0
  obtain ⟨n1, hn⟩ := and_e hn
  obtain ⟨a_DOWN, v_DOWN⟩ := exa_v n1
  have S_DOWN := Sta.start v_DOWN (Or.inr ⟨(hw _ (List.mem_of_getElem? (i := 3) rfl)), (hw _ (List.mem_of_getElem? (i := 7) rfl))⟩)
  have E_DOWN := Exa.start v_DOWN n1
  obtain ⟨n2, hn⟩ := and_e hn
  obtain ⟨a_ENTER, v_ENTER⟩ := exa_v n2
  have S_ENTER := Sta.start v_ENTER (Or.inr ⟨(hw _ (List.mem_of_getElem? (i := 3) rfl)), (hw _ (List.mem_of_getElem? (i := 9) rfl))⟩)
  have E_ENTER := Exa.start v_ENTER n2
  obtain ⟨n3, hn⟩ := and_e hn
  obtain ⟨a_ESCAPE, v_ESCAPE⟩ := exa_v n3
  have S_ESCAPE := Sta.start v_ESCAPE (Or.inr ⟨(hw _ (List.mem_of_getElem? (i := 3) rfl)), (hw _ (List.mem_of_getElem? (i := 11) rfl))⟩)
  have E_ESCAPE := Exa.start v_ESCAPE n3
  obtain ⟨n4, hn⟩ := and_e hn
  obtain ⟨a_CANCEL, v_CANCEL⟩ := exa_v n4
  have S_CANCEL := Sta.start v_CANCEL (Or.inr ⟨(hw _ (List.mem_of_getElem? (i := 3) rfl)), (hw _ (List.mem_of_getElem? (i := 13) rfl))⟩)
  have E_CANCEL := Exa.start v_CANCEL n4
  obtain ⟨n5, hn⟩ := and_e hn
  obtain ⟨a_TERMINATE, v_TERMINATE⟩ := exa_v n5
  have S_TERMINATE := Sta.start v_TERMINATE (Or.inr ⟨(hw _ (List.mem_of_getElem? (i := 3) rfl)), (hw _ (List.mem_of_getElem? (i := 15) rfl))⟩)
  have E_TERMINATE := Exa.start v_TERMINATE n5
  obtain ⟨n6, hn⟩ := and_e hn
  obtain ⟨a_YES, v_YES⟩ := exa_v n6
  have S_YES := Sta.start v_YES (Or.inr ⟨(hw _ (List.mem_of_getElem? (i := 3) rfl)), (hw _ (List.mem_of_getElem? (i := 17) rfl))⟩)
  have E_YES := Exa.start v_YES n6
  obtain ⟨n7, hn⟩ := and_e hn
  obtain ⟨a_QUIT, v_QUIT⟩ := exa_v n7
  have S_QUIT := Sta.start v_QUIT (Or.inr ⟨(hw _ (List.mem_of_getElem? (i := 3) rfl)), (hw _ (List.mem_of_getElem? (i := 19) rfl))⟩)
  have E_QUIT := Exa.start v_QUIT n7
  obtain ⟨n8, hn⟩ := and_e hn
  obtain ⟨a_PREVIOUS, v_PREVIOUS⟩ := exa_v n8
  have S_PREVIOUS := Sta.start v_PREVIOUS (Or.inr ⟨(hw _ (List.mem_of_getElem? (i := 3) rfl)), (hw _ (List.mem_of_getElem? (i := 21) rfl))⟩)
  have E_PREVIOUS := Exa.start v_PREVIOUS n8
  obtain ⟨n9, hn⟩ := and_e hn
  obtain ⟨a_NEXT, v_NEXT⟩ := exa_v n9
  have S_NEXT := Sta.start v_NEXT (Or.inr ⟨(hw _ (List.mem_of_getElem? (i := 3) rfl)), (hw _ (List.mem_of_getElem? (i := 23) rfl))⟩)
  have E_NEXT := Exa.start v_NEXT n9
  obtain ⟨n10, hn⟩ := and_e hn
  obtain ⟨a_FIRST, v_FIRST⟩ := exa_v n10
  have S_FIRST := Sta.start v_FIRST (Or.inr ⟨(hw _ (List.mem_of_getElem? (i := 3) rfl)), (hw _ (List.mem_of_getElem? (i := 25) rfl))⟩)
  have E_FIRST := Exa.start v_FIRST n10
  obtain ⟨n11, hn⟩ := and_e hn
  obtain ⟨a_LAST, v_LAST⟩ := exa_v n11
  have S_LAST := Sta.start v_LAST (Or.inr ⟨(hw _ (List.mem_of_getElem? (i := 3) rfl)), (hw _ (List.mem_of_getElem? (i := 27) rfl))⟩)
  have E_LAST := Exa.start v_LAST n11
  obtain ⟨n12, hn⟩ := and_e hn
  obtain ⟨a_MOST_WAITING, v_MOST_WAITING⟩ := exa_v n12
  have S_MOST_WAITING := Sta.start v_MOST_WAITING (Or.inr ⟨(hw _ (List.mem_of_getElem? (i := 3) rfl)), (hw _ (List.mem_of_getElem? (i := 29) rfl))⟩)
  have E_MOST_WAITING := Exa.start v_MOST_WAITING n12
  obtain ⟨n13, hn⟩ := and_e hn
  obtain ⟨a_OTHER, v_OTHER⟩ := exa_v n13
  have S_OTHER := Sta.start v_OTHER (Or.inr ⟨(hw _ (List.mem_of_getElem? (i := 3) rfl)), (hw _ (List.mem_of_getElem? (i := 31) rfl))⟩)
  have E_OTHER := Exa.start v_OTHER n13
  obtain ⟨n14, hn⟩ := and_e hn
  have F_UP_ordinal := own_fld v_UP n14
  obtain ⟨n15, hn⟩ := and_e hn
  have F_PREVIOUS_ordinal := own_fld v_PREVIOUS n15
  obtain ⟨n16, hn⟩ := and_e hn
  have F_NEXT_ordinal := own_fld v_NEXT n16
  obtain ⟨n17, hn⟩ := and_e hn
  have F_FIRST_ordinal := own_fld v_FIRST n17
  obtain ⟨n18, hn⟩ := and_e hn
  have F_LAST_ordinal := own_fld v_LAST n18
  obtain ⟨n19, hn⟩ := and_e hn
  have F_MOST_WAITING_ordinal := own_fld v_MOST_WAITING n19
  obtain ⟨n20, hn⟩ := and_e hn
  have F_ESCAPE_ordinal := own_fld v_ESCAPE n20
  obtain ⟨n21, hn⟩ := and_e hn
  have F_OTHER_ordinal := own_fld v_OTHER n21
  obtain ⟨n22, hn⟩ := and_e hn
  have F_CANCEL_ordinal := own_fld v_CANCEL n22
  obtain ⟨n23, hn⟩ := and_e hn
  have F_QUIT_ordinal := own_fld v_QUIT n23
  obtain ⟨n24, hn⟩ := and_e hn
  have F_ENTER_ordinal := own_fld v_ENTER n24
  obtain ⟨n25, hn⟩ := and_e hn
  have F_DOWN_ordinal := own_fld v_DOWN n25
  obtain ⟨n26, hn⟩ := and_e hn
  have F_TERMINATE_ordinal := own_fld v_TERMINATE n26
  have F_YES_ordinal := own_fld v_YES hn
  have B : own_B s s.heap a_UP a_DOWN a_ENTER a_ESCAPE a_CANCEL a_TERMINATE a_YES a_QUIT a_PREVIOUS a_NEXT a_FIRST a_LAST a_MOST_WAITING a_OTHER := ⟨S_UP, E_UP, S_DOWN, E_DOWN, S_ENTER, E_ENTER, S_ESCAPE, E_ESCAPE, S_CANCEL, E_CANCEL, S_TERMINATE, E_TERMINATE, S_YES, E_YES, S_QUIT, E_QUIT, S_PREVIOUS, E_PREVIOUS, S_NEXT, E_NEXT, S_FIRST, E_FIRST, S_LAST, E_LAST, S_MOST_WAITING, E_MOST_WAITING, S_OTHER, E_OTHER, F_UP_ordinal, F_PREVIOUS_ordinal, F_NEXT_ordinal, F_FIRST_ordinal, F_LAST_ordinal, F_MOST_WAITING_ordinal, F_ESCAPE_ordinal, F_OTHER_ordinal, F_CANCEL_ordinal, F_QUIT_ordinal, F_ENTER_ordinal, F_DOWN_ordinal, F_TERMINATE_ordinal, F_YES_ordinal⟩
  obtain ⟨n, o, h1, h2, h3, _, L, rfl, ⟨rfl, N⟩, hq⟩ := rm0 l s _ hw i0 a_UP a_DOWN a_ENTER a_ESCAPE a_CANCEL a_TERMINATE a_YES a_QUIT a_PREVIOUS a_NEXT a_FIRST a_LAST a_MOST_WAITING a_OTHER s.heap s.heap.size (Nat.le_refl _) B tables_1 p e ha hc hk s m _ below hf ((Spec.applies_iff_loose hf).mp happ).1 ⟨rfl, State.Warmed39.refl s, rfl⟩ trivial
  refine ⟨n, _, h1, h2, h3, hpost _ _ _ _ _ _ ⟨Jvm.Cond.after_iff.mpr rfl, Jvm.Cond.after_iff.mpr (eq_i res_at (Term.int_eval (1)) rfl), trivial⟩ ⟨hq.1, hq.2.1, (hq.2.2.sift fun y hy => Or.inr (N y hy)).mono (by decide) (by decide)⟩⟩
theorem main_1_1 : Claimed_1_1 := comes_1 fun _ _ _ _ _ _ h hF => ⟨h.1, hF⟩
theorem main_1_2 : Claimed_1_2 := comes_1 fun _ _ _ _ _ _ h hF => ⟨h.2.1, hF⟩
end Jvm.Pilot.@@N@@
namespace Jvm.Pilot.@@N@@
open Jvm Jvm.ClassFile Sem Op Lib Jvm.Free Jvm.Stand Jvm.Pilot.@@N@@.Jvm.D
/-! MADE BY PROGRAM (witnessworld.py) out of the Statement's table words and the real class files: 13 classes; the members and pool entries that the words name. The judged class is class 1, her method 1. -/
namespace start1
open Jvm.ClassFile
def u (s : String) : CpInfo := .utf8 (stringToUtf16 s)
/-- a pool by its gaps: so many unusable entries, then the entry; so many at the end -/
def gap : Nat → List CpInfo → List CpInfo
  | 0, r => r
  | n + 1, r => .unusable :: gap n r
def poolList (es : List (Nat × CpInfo)) (last : Nat) : List CpInfo := es.foldr (fun e r => gap e.1 (e.2 :: r)) (gap last [])
def pool (es : List (Nat × CpInfo)) (last : Nat) : Array CpInfo := ⟨poolList es last⟩
def fileOf (pool : Array CpInfo) (this : Nat) (attrs : Array Attribute := #[]) (ms : Array MethodInfo := #[]) (fl : Nat := 33) (sup : Nat := 0) (ifs : Array Nat := #[]) (fds : Array FieldInfo := #[]) : ClassFile where
  minorVersion := 0
  majorVersion := 65
  constantPool := pool
  accessFlags := fl
  thisClass := this
  superClass := sup
  interfaces := ifs
  fields := fds
  methods := ms
  attributes := attrs
def plain (name : String) (sup : Option ClassId) : Class where
  name := name
  kind := .ordinary
  loader := none
  accessFlags := 33
  super := sup
  interfaces := #[]
  cf := none
  fields := #[]
  methods := #[]
  instanceTypes := #[]
  staticTypes := #[]
  resolved := #[]
  callSites := []
  init := .initialized
  statics := none
  mirror := none

def pool0 : Array CpInfo := pool [(5, u "<init>"), (0, u "()V"), (1, .class_ 10), (1, u "java/lang/Object")] 113

def k0m0 : Method := { name := "<init>", desc := "()V", sig := { parameters := [], returnType := none }, accessFlags := 1, code := none }
/-- java/lang/Object -/
def k0 : Class := { plain "java/lang/Object" none with
  accessFlags := 33
  interfaces := #[]
  cf := some (fileOf pool0 8 #[] #[{ accessFlags := 1, nameIndex := 5, descriptorIndex := 6, attributes := #[] }] 33 0 #[] #[])
  fields := #[]
  methods := #[k0m0]
  instanceTypes := #[]
  staticTypes := #[]
  resolved := Array.replicate 124 none
  statics := none }

def pool1 : Array CpInfo := pool [(2, .class_ 4), (1, u "java/lang/Object"), (0, u "<init>"), (0, u "()V"), (0, .class_ 8), (0, u "com/example/locktop/locktop/view/Key"), (0, .fieldref 7 10), (0, .nameAndType 11 12), (0, u "UP"), (0, u "Lcom/example/locktop/locktop/view/Key;"), (0, .fieldref 7 14), (0, .nameAndType 15 12), (0, u "DOWN"), (0, .fieldref 7 17), (0, .nameAndType 18 12), (0, u "ENTER"), (0, .fieldref 7 20), (0, .nameAndType 21 12), (0, u "ESCAPE"), (0, .fieldref 7 23), (0, .nameAndType 24 12), (0, u "CANCEL"), (0, .fieldref 7 26), (0, .nameAndType 27 12), (0, u "TERMINATE"), (0, .fieldref 7 29), (0, .nameAndType 30 12), (0, u "YES"), (0, .fieldref 7 32), (0, .nameAndType 33 12), (0, u "QUIT"), (0, .fieldref 7 35), (0, .nameAndType 36 12), (0, u "PREVIOUS"), (0, .fieldref 7 38), (0, .nameAndType 39 12), (0, u "NEXT"), (0, .fieldref 7 41), (0, .nameAndType 42 12), (0, u "FIRST"), (0, .fieldref 7 44), (0, .nameAndType 45 12), (0, u "LAST"), (0, .fieldref 7 47), (0, .nameAndType 48 12), (0, u "MOST_WAITING"), (0, .fieldref 7 50), (0, .nameAndType 51 12), (0, u "OTHER"), (0, .integer 2147483647), (0, .methodref 7 54), (0, .nameAndType 55 56), (0, u "steps"), (0, u "()Z"), (0, .class_ 58), (0, u "com/example/locktop/locktop/view/KeyStepsPinLaw"), (2, u "law"), (0, u "(I)Z")] 5

def k1m0 : Method := { name := "<init>", desc := "()V", sig := { parameters := [], returnType := none }, accessFlags := 1, code := none }
def k1c1 : Code := { maxStack := 4, maxLocals := 5, code := code, exceptionTable := #[], attributes := #[] }
def k1m1 : Method := { name := "law", desc := "(I)Z", sig := { parameters := [.int], returnType := some .boolean }, accessFlags := 9, code := some k1c1 }
/-- com/example/locktop/locktop/view/KeyStepsPinLaw -/
def k1 : Class := { plain "com/example/locktop/locktop/view/KeyStepsPinLaw" (some 0) with
  accessFlags := 49
  interfaces := #[]
  cf := some (fileOf pool1 57 #[] #[{ accessFlags := 1, nameIndex := 5, descriptorIndex := 6, attributes := #[] }, { accessFlags := 9, nameIndex := 61, descriptorIndex := 62, attributes := #[] }] 49 2 #[] #[])
  fields := #[]
  methods := #[k1m0, k1m1]
  instanceTypes := #[]
  staticTypes := #[]
  resolved := Array.replicate 68 none
  statics := none }

def pool2 : Array CpInfo := pool [(1, .class_ 2), (0, u "java/lang/constant/Constable"), (0, .class_ 4), (0, u "java/lang/Object")] 6

/-- java/lang/constant/Constable -/
def k2 : Class := { plain "java/lang/constant/Constable" (some 0) with
  accessFlags := 1537
  interfaces := #[]
  cf := some (fileOf pool2 1 #[] #[] 1537 3 #[] #[])
  fields := #[]
  methods := #[]
  instanceTypes := #[]
  staticTypes := #[]
  resolved := Array.replicate 11 none
  statics := none }

def pool3 : Array CpInfo := pool [(1, .class_ 2), (0, u "java/lang/Comparable"), (0, .class_ 4), (0, u "java/lang/Object")] 7

/-- java/lang/Comparable -/
def k3 : Class := { plain "java/lang/Comparable" (some 0) with
  accessFlags := 1537
  interfaces := #[]
  cf := some (fileOf pool3 1 #[] #[] 1537 3 #[] #[])
  fields := #[]
  methods := #[]
  instanceTypes := #[]
  staticTypes := #[]
  resolved := Array.replicate 12 none
  statics := none }

def pool4 : Array CpInfo := pool [(1, .class_ 2), (0, u "java/io/Serializable"), (0, .class_ 4), (0, u "java/lang/Object")] 2

/-- java/io/Serializable -/
def k4 : Class := { plain "java/io/Serializable" (some 0) with
  accessFlags := 1537
  interfaces := #[]
  cf := some (fileOf pool4 1 #[] #[] 1537 3 #[] #[])
  fields := #[]
  methods := #[]
  instanceTypes := #[]
  staticTypes := #[]
  resolved := Array.replicate 7 none
  statics := none }

def pool5 : Array CpInfo := pool [(2, .class_ 4), (1, u "java/lang/Enum"), (0, u "name"), (0, u "Ljava/lang/String;"), (2, u "ordinal"), (0, u "I"), (1, .class_ 14), (1, u "java/lang/Object"), (4, u "hash"), (86, .class_ 108), (1, u "java/lang/Enum$EnumDesc"), (2, .class_ 112), (0, u "java/lang/constant/Constable"), (0, .class_ 114), (0, u "java/lang/Comparable"), (0, .class_ 116), (0, u "java/io/Serializable")] 87

/-- java/lang/Enum -/
def k5 : Class := { plain "java/lang/Enum" (some 0) with
  accessFlags := 1057
  interfaces := #[2, 3, 4]
  cf := some (fileOf pool5 2 #[.nestMembers #[106]] #[] 1057 12 #[111, 113, 115] #[{ accessFlags := 18, nameIndex := 5, descriptorIndex := 6, attributes := #[] }, { accessFlags := 18, nameIndex := 9, descriptorIndex := 10, attributes := #[] }, { accessFlags := 2, nameIndex := 19, descriptorIndex := 10, attributes := #[] }])
  fields := #[{ name := "name", type := (.object "java/lang/String"), accessFlags := 18, slot := 0, constantValue := 0 }, { name := "ordinal", type := .int, accessFlags := 18, slot := 1, constantValue := 0 }, { name := "hash", type := .int, accessFlags := 2, slot := 2, constantValue := 0 }]
  methods := #[]
  instanceTypes := #[(.object "java/lang/String"), .int, .int]
  staticTypes := #[]
  resolved := Array.replicate 204 none
  statics := none }

def pool6 : Array CpInfo := pool [(1, .class_ 2), (0, u "com/example/locktop/locktop/view/Key"), (2, u "UP"), (0, u "Lcom/example/locktop/locktop/view/Key;"), (2, u "DOWN"), (2, u "ENTER"), (2, u "ESCAPE"), (2, u "CANCEL"), (2, u "TERMINATE"), (2, u "YES"), (2, u "QUIT"), (0, .fieldref 1 29), (0, .nameAndType 30 6), (0, u "PREVIOUS"), (0, .fieldref 1 32), (0, .nameAndType 33 6), (0, u "NEXT"), (0, .fieldref 1 35), (0, .nameAndType 36 6), (0, u "FIRST"), (0, .fieldref 1 38), (0, .nameAndType 39 6), (0, u "LAST"), (0, .fieldref 1 41), (0, .nameAndType 42 6), (0, u "MOST_WAITING"), (2, u "OTHER"), (2, u "$VALUES"), (0, u "[Lcom/example/locktop/locktop/view/Key;"), (6, .class_ 58), (1, u "java/lang/Enum"), (25, u "UP_LETTER"), (0, u "C"), (2, u "DOWN_LETTER"), (1, u "CANCEL_LETTER"), (1, u "TERMINATE_LETTER"), (1, u "YES_LETTER"), (1, u "QUIT_LETTER"), (1, u "PREVIOUS_LETTER"), (1, u "NEXT_LETTER"), (1, u "FIRST_LETTER"), (1, u "LAST_LETTER"), (1, u "MOST_WAITING_LETTER"), (1, u "ACTION_KEYS"), (0, u "Ljava/lang/String;"), (2, u "STEPPING_KEYS"), (2, u "MOVES"), (2, u "LETTER_MOVES"), (2, u "FOREST_HINTS"), (2, u "FOLDED_HINTS"), (2, u "DETAIL_HINTS"), (2, u "ACTION_HINTS"), (2, u "READ_ONLY_HINTS"), (2, u "RECORDING_HINTS"), (2, u "YES_OR_NO"), (12, u "steps"), (0, u "()Z")] 4

def k6c0 : Code := { maxStack := 2, maxLocals := 1, code := prog_81_method_5_code, exceptionTable := #[], attributes := #[] }
def k6m0 : Method := { name := "steps", desc := "()Z", sig := { parameters := [], returnType := some .boolean }, accessFlags := 0, code := some k6c0 }
/-- com/example/locktop/locktop/view/Key -/
def k6 : Class := { plain "com/example/locktop/locktop/view/Key" (some 5) with
  accessFlags := 16433
  interfaces := #[]
  cf := some (fileOf pool6 1 #[] #[{ accessFlags := 0, nameIndex := 152, descriptorIndex := 153, attributes := #[] }] 16433 56 #[] #[{ accessFlags := 16409, nameIndex := 5, descriptorIndex := 6, attributes := #[] }, { accessFlags := 16409, nameIndex := 9, descriptorIndex := 6, attributes := #[] }, { accessFlags := 16409, nameIndex := 12, descriptorIndex := 6, attributes := #[] }, { accessFlags := 16409, nameIndex := 15, descriptorIndex := 6, attributes := #[] }, { accessFlags := 16409, nameIndex := 18, descriptorIndex := 6, attributes := #[] }, { accessFlags := 16409, nameIndex := 21, descriptorIndex := 6, attributes := #[] }, { accessFlags := 16409, nameIndex := 24, descriptorIndex := 6, attributes := #[] }, { accessFlags := 16409, nameIndex := 27, descriptorIndex := 6, attributes := #[] }, { accessFlags := 16409, nameIndex := 30, descriptorIndex := 6, attributes := #[] }, { accessFlags := 16409, nameIndex := 33, descriptorIndex := 6, attributes := #[] }, { accessFlags := 16409, nameIndex := 36, descriptorIndex := 6, attributes := #[] }, { accessFlags := 16409, nameIndex := 39, descriptorIndex := 6, attributes := #[] }, { accessFlags := 16409, nameIndex := 42, descriptorIndex := 6, attributes := #[] }, { accessFlags := 16409, nameIndex := 45, descriptorIndex := 6, attributes := #[] }, { accessFlags := 26, nameIndex := 84, descriptorIndex := 85, attributes := #[] }, { accessFlags := 26, nameIndex := 88, descriptorIndex := 85, attributes := #[] }, { accessFlags := 26, nameIndex := 90, descriptorIndex := 85, attributes := #[] }, { accessFlags := 26, nameIndex := 92, descriptorIndex := 85, attributes := #[] }, { accessFlags := 26, nameIndex := 94, descriptorIndex := 85, attributes := #[] }, { accessFlags := 26, nameIndex := 96, descriptorIndex := 85, attributes := #[] }, { accessFlags := 26, nameIndex := 98, descriptorIndex := 85, attributes := #[] }, { accessFlags := 26, nameIndex := 100, descriptorIndex := 85, attributes := #[] }, { accessFlags := 26, nameIndex := 102, descriptorIndex := 85, attributes := #[] }, { accessFlags := 26, nameIndex := 104, descriptorIndex := 85, attributes := #[] }, { accessFlags := 26, nameIndex := 106, descriptorIndex := 85, attributes := #[] }, { accessFlags := 25, nameIndex := 108, descriptorIndex := 109, attributes := #[] }, { accessFlags := 25, nameIndex := 112, descriptorIndex := 109, attributes := #[] }, { accessFlags := 24, nameIndex := 115, descriptorIndex := 109, attributes := #[] }, { accessFlags := 24, nameIndex := 118, descriptorIndex := 109, attributes := #[] }, { accessFlags := 24, nameIndex := 121, descriptorIndex := 109, attributes := #[] }, { accessFlags := 24, nameIndex := 124, descriptorIndex := 109, attributes := #[] }, { accessFlags := 24, nameIndex := 127, descriptorIndex := 109, attributes := #[] }, { accessFlags := 24, nameIndex := 130, descriptorIndex := 109, attributes := #[] }, { accessFlags := 24, nameIndex := 133, descriptorIndex := 109, attributes := #[] }, { accessFlags := 24, nameIndex := 136, descriptorIndex := 109, attributes := #[] }, { accessFlags := 24, nameIndex := 139, descriptorIndex := 109, attributes := #[] }, { accessFlags := 4122, nameIndex := 48, descriptorIndex := 49, attributes := #[] }])
  fields := #[{ name := "UP", type := (.object "com/example/locktop/locktop/view/Key"), accessFlags := 16409, slot := 0, constantValue := 0 }, { name := "DOWN", type := (.object "com/example/locktop/locktop/view/Key"), accessFlags := 16409, slot := 1, constantValue := 0 }, { name := "ENTER", type := (.object "com/example/locktop/locktop/view/Key"), accessFlags := 16409, slot := 2, constantValue := 0 }, { name := "ESCAPE", type := (.object "com/example/locktop/locktop/view/Key"), accessFlags := 16409, slot := 3, constantValue := 0 }, { name := "CANCEL", type := (.object "com/example/locktop/locktop/view/Key"), accessFlags := 16409, slot := 4, constantValue := 0 }, { name := "TERMINATE", type := (.object "com/example/locktop/locktop/view/Key"), accessFlags := 16409, slot := 5, constantValue := 0 }, { name := "YES", type := (.object "com/example/locktop/locktop/view/Key"), accessFlags := 16409, slot := 6, constantValue := 0 }, { name := "QUIT", type := (.object "com/example/locktop/locktop/view/Key"), accessFlags := 16409, slot := 7, constantValue := 0 }, { name := "PREVIOUS", type := (.object "com/example/locktop/locktop/view/Key"), accessFlags := 16409, slot := 8, constantValue := 0 }, { name := "NEXT", type := (.object "com/example/locktop/locktop/view/Key"), accessFlags := 16409, slot := 9, constantValue := 0 }, { name := "FIRST", type := (.object "com/example/locktop/locktop/view/Key"), accessFlags := 16409, slot := 10, constantValue := 0 }, { name := "LAST", type := (.object "com/example/locktop/locktop/view/Key"), accessFlags := 16409, slot := 11, constantValue := 0 }, { name := "MOST_WAITING", type := (.object "com/example/locktop/locktop/view/Key"), accessFlags := 16409, slot := 12, constantValue := 0 }, { name := "OTHER", type := (.object "com/example/locktop/locktop/view/Key"), accessFlags := 16409, slot := 13, constantValue := 0 }, { name := "UP_LETTER", type := .char, accessFlags := 26, slot := 14, constantValue := 0 }, { name := "DOWN_LETTER", type := .char, accessFlags := 26, slot := 15, constantValue := 0 }, { name := "CANCEL_LETTER", type := .char, accessFlags := 26, slot := 16, constantValue := 0 }, { name := "TERMINATE_LETTER", type := .char, accessFlags := 26, slot := 17, constantValue := 0 }, { name := "YES_LETTER", type := .char, accessFlags := 26, slot := 18, constantValue := 0 }, { name := "QUIT_LETTER", type := .char, accessFlags := 26, slot := 19, constantValue := 0 }, { name := "PREVIOUS_LETTER", type := .char, accessFlags := 26, slot := 20, constantValue := 0 }, { name := "NEXT_LETTER", type := .char, accessFlags := 26, slot := 21, constantValue := 0 }, { name := "FIRST_LETTER", type := .char, accessFlags := 26, slot := 22, constantValue := 0 }, { name := "LAST_LETTER", type := .char, accessFlags := 26, slot := 23, constantValue := 0 }, { name := "MOST_WAITING_LETTER", type := .char, accessFlags := 26, slot := 24, constantValue := 0 }, { name := "ACTION_KEYS", type := (.object "java/lang/String"), accessFlags := 25, slot := 25, constantValue := 0 }, { name := "STEPPING_KEYS", type := (.object "java/lang/String"), accessFlags := 25, slot := 26, constantValue := 0 }, { name := "MOVES", type := (.object "java/lang/String"), accessFlags := 24, slot := 27, constantValue := 0 }, { name := "LETTER_MOVES", type := (.object "java/lang/String"), accessFlags := 24, slot := 28, constantValue := 0 }, { name := "FOREST_HINTS", type := (.object "java/lang/String"), accessFlags := 24, slot := 29, constantValue := 0 }, { name := "FOLDED_HINTS", type := (.object "java/lang/String"), accessFlags := 24, slot := 30, constantValue := 0 }, { name := "DETAIL_HINTS", type := (.object "java/lang/String"), accessFlags := 24, slot := 31, constantValue := 0 }, { name := "ACTION_HINTS", type := (.object "java/lang/String"), accessFlags := 24, slot := 32, constantValue := 0 }, { name := "READ_ONLY_HINTS", type := (.object "java/lang/String"), accessFlags := 24, slot := 33, constantValue := 0 }, { name := "RECORDING_HINTS", type := (.object "java/lang/String"), accessFlags := 24, slot := 34, constantValue := 0 }, { name := "YES_OR_NO", type := (.object "java/lang/String"), accessFlags := 24, slot := 35, constantValue := 0 }, { name := "$VALUES", type := (.array (.object "com/example/locktop/locktop/view/Key")), accessFlags := 4122, slot := 36, constantValue := 0 }]
  methods := #[k6m0]
  instanceTypes := #[(.object "java/lang/String"), .int, .int]
  staticTypes := #[(.object "com/example/locktop/locktop/view/Key"), (.object "com/example/locktop/locktop/view/Key"), (.object "com/example/locktop/locktop/view/Key"), (.object "com/example/locktop/locktop/view/Key"), (.object "com/example/locktop/locktop/view/Key"), (.object "com/example/locktop/locktop/view/Key"), (.object "com/example/locktop/locktop/view/Key"), (.object "com/example/locktop/locktop/view/Key"), (.object "com/example/locktop/locktop/view/Key"), (.object "com/example/locktop/locktop/view/Key"), (.object "com/example/locktop/locktop/view/Key"), (.object "com/example/locktop/locktop/view/Key"), (.object "com/example/locktop/locktop/view/Key"), (.object "com/example/locktop/locktop/view/Key"), .char, .char, .char, .char, .char, .char, .char, .char, .char, .char, .char, (.object "java/lang/String"), (.object "java/lang/String"), (.object "java/lang/String"), (.object "java/lang/String"), (.object "java/lang/String"), (.object "java/lang/String"), (.object "java/lang/String"), (.object "java/lang/String"), (.object "java/lang/String"), (.object "java/lang/String"), (.object "java/lang/String"), (.array (.object "com/example/locktop/locktop/view/Key"))]
  resolved := Array.replicate 158 none
  statics := some 0 }

def pool7 : Array CpInfo := pool [(1, u "java/lang/Cloneable"), (0, .class_ 1), (0, u "java/lang/Object"), (0, .class_ 3)] 3

/-- java/lang/Cloneable -/
def k7 : Class := { plain "java/lang/Cloneable" (some 0) with
  accessFlags := 1537
  interfaces := #[]
  cf := some (fileOf pool7 2 #[] #[] 1537 4 #[] #[])
  fields := #[]
  methods := #[]
  instanceTypes := #[]
  staticTypes := #[]
  resolved := Array.replicate 8 none
  statics := none }

/-- the primitive byte -/
def k8 : Class := { plain "byte" none with kind := .primitive 'B', accessFlags := 0x411 }
/-- [B -/
def k9 : Class := { plain "[B" (some 0) with kind := .array 8 .byte, interfaces := #[7, 4], accessFlags := 1041 }

/-- the primitive int -/
def k10 : Class := { plain "int" none with kind := .primitive 'I', accessFlags := 0x411 }
/-- [I -/
def k11 : Class := { plain "[I" (some 0) with kind := .array 10 .int, interfaces := #[7, 4], accessFlags := 1041 }

/-- [Lcom/example/locktop/locktop/view/Key; -/
def k12 : Class := { plain "[Lcom/example/locktop/locktop/view/Key;" (some 0) with kind := .array 6 (.object "com/example/locktop/locktop/view/Key"), interfaces := #[7, 4], accessFlags := 1041 }

def heap : Heap := #[{ cls := 6, slots := #[.ref 1, .ref 2, .ref 3, .ref 4, .ref 5, .ref 6, .ref 7, .ref 8, .ref 9, .ref 10, .ref 11, .ref 12, .ref 13, .ref 14, .int 0, .int 0, .int 0, .int 0, .int 0, .int 0, .int 0, .int 0, .int 0, .int 0, .int 0, .null, .null, .null, .null, .null, .null, .null, .null, .null, .null, .null, .null], vm := .statics 6 },
  { cls := 6, slots := #[.null, .int 0, .int 0], vm := .none },
  { cls := 6, slots := #[.null, .int 1, .int 0], vm := .none },
  { cls := 6, slots := #[.null, .int 2, .int 0], vm := .none },
  { cls := 6, slots := #[.null, .int 3, .int 0], vm := .none },
  { cls := 6, slots := #[.null, .int 4, .int 0], vm := .none },
  { cls := 6, slots := #[.null, .int 5, .int 0], vm := .none },
  { cls := 6, slots := #[.null, .int 6, .int 0], vm := .none },
  { cls := 6, slots := #[.null, .int 7, .int 0], vm := .none },
  { cls := 6, slots := #[.null, .int 8, .int 0], vm := .none },
  { cls := 6, slots := #[.null, .int 9, .int 0], vm := .none },
  { cls := 6, slots := #[.null, .int 10, .int 0], vm := .none },
  { cls := 6, slots := #[.null, .int 11, .int 0], vm := .none },
  { cls := 6, slots := #[.null, .int 12, .int 0], vm := .none },
  { cls := 6, slots := #[.null, .int 13, .int 0], vm := .none }]
def classes : Array Class := #[k0, k1, k2, k3, k4, k5, k6, k7, k8, k9, k10, k11, k12]
def interned : List (Array UInt16 × Addr) := []
def slotsUsed : Nat := 79
def theMethod : MethodId := ⟨1, 1⟩
def args0 : Array Value := #[.int 5]
def aboutOver (below : List Frame) : State where
  vm := { classes := classes, interned := interned.toArray }
  heap := heap
  slotsUsed := slotsUsed
  threads := #[{ frames := .invoking theMethod args0 :: below }]
def below0 : List Frame := [.native { method := ⟨0, 0⟩, args := #[] }]
def about1 : State := aboutOver below0
def p0 : Program := .bare "" "" ""
def e0 : Env := launch0.env 0 0 0
theorem w_frames : about1.frames = Frame.invoking theMethod args0 :: below0 := rfl
set_option maxRecDepth 65536 in
theorem w_args : argsFit about1.vm theMethod args0 = true := by decide +kernel
set_option maxRecDepth 65536 in
theorem w_heap : heapFits about1 = true := by decide +kernel
set_option maxRecDepth 65536 in
theorem w_runnable : about1.curStatus? = some .runnable := by decide +kernel
set_option maxRecDepth 65536 in
theorem w_alone : about1.alone = true := by decide +kernel
set_option maxRecDepth 65536 in
theorem w_named : about1.methodNamed? x = some theMethod := by decide +kernel
set_option maxRecDepth 65536 in
theorem w_hears : about1.hears theMethod below0 = true := by decide +kernel
set_option maxRecDepth 65536 in
theorem w_ripe : about1.ripe theMethod args0 below0 = true := by decide +kernel
theorem w_running : about1.status = .running := rfl
set_option maxRecDepth 65536 in
theorem w_room : about1.hasRoom e0.platform room_1 = true :=
  launch0.hasRoom_least _ room_1 (by decide +kernel) (by decide +kernel) (by decide +kernel) (by decide +kernel) (by decide +kernel) (by decide +kernel)
theorem allAtoms_all (ts : List Jvm.Cond) (a : Array Jvm.Value) (st : Jvm.State) : (allAtoms ts).before a st = ts.all (fun c => c.before a st) := by
  induction ts with
  | nil => rfl
  | cons c t ih =>
    show (Jvm.Cond.and c (allAtoms t)).before a st = _
    rw [Jvm.Cond.before_and, ih, List.all_cons]
def words1 : List Jvm.Cond := Jvm.Cond.code x code maxLocals ret :: tables_1
/-- a 'code' word, met by the world's own term for the bytes: nothing is compared byte by byte -/
theorem code_word {y : MethodName} {bytes : ByteArray} {mx : Nat} {rt : Option FieldType} {a : Array Value} {s : State} {m : MethodId} {meth : Method} {c : Code} (h1 : s.methodNamed? y = some m) (h2 : s.vm.method? m = some meth) (h3 : meth.code = some c) (h4 : c.code = bytes)
    (h5 : (c.maxLocals == mx && c.exceptionTable.isEmpty && decide (c.maxStack ≤ mostOperands) && decide (meth.sig.returnType = rt) && !meth.locks && decide (parseMethodDescriptor y.desc = some meth.sig)) = true) : (Jvm.Cond.code y bytes mx rt).before a s = true := by
  simp only [Bool.and_eq_true, beq_iff_eq, Bool.not_eq_true', decide_eq_true_eq] at h5
  obtain ⟨⟨⟨⟨⟨g1, g2⟩, g3⟩, g4⟩, g5⟩, g6⟩ := h5
  simp [Cond.before, Cond.holds, Cond.value, h1, h2, h3, h4, g1, g2, g3, g4, g5, g6]
def isCode : Jvm.Cond → Bool
  | .code _ _ _ _ => true
  | _ => false
theorem all_split {L : List Jvm.Cond} {P : Jvm.Cond → Bool} (h1 : L.all (fun c => isCode c || P c) = true) (h2 : ∀ c ∈ L.filter isCode, P c = true) : L.all P = true := by
  refine List.all_eq_true.mpr fun c hc => ?_
  have h := List.all_eq_true.mp h1 c hc
  rcases Bool.eq_false_or_eq_true (isCode c) with hi | hi
  · exact h2 c (List.mem_filter.mpr ⟨hc, hi⟩)
  · simpa [hi] using h
set_option maxRecDepth 65536 in
theorem w_c0 : (Jvm.Cond.code x code maxLocals ret).before args0 about1 = true := code_word (m := ⟨1, 1⟩) (meth := k1m1) (c := k1c1) (by decide +kernel) rfl rfl rfl (by decide +kernel)
set_option maxRecDepth 65536 in
theorem w_c1 : (Jvm.Cond.code ({ cls := "com/example/locktop/locktop/view/Key", name := "steps", desc := "()Z" } : Jvm.MethodName) prog_81_method_5_code (1 : Nat) (Option.some Jvm.ClassFile.FieldType.boolean)).before args0 about1 = true := code_word (m := ⟨6, 0⟩) (meth := k6m0) (c := k6c0) (by decide +kernel) rfl rfl rfl (by decide +kernel)
def codes1 : List Jvm.Cond := [Jvm.Cond.code x code maxLocals ret, Jvm.Cond.code ({ cls := "com/example/locktop/locktop/view/Key", name := "steps", desc := "()Z" } : Jvm.MethodName) prog_81_method_5_code (1 : Nat) (Option.some Jvm.ClassFile.FieldType.boolean)]
set_option maxRecDepth 65536 in
theorem codes_eq : words1.filter isCode = codes1 := rfl
theorem w_codes : ∀ c ∈ words1.filter isCode, c.before args0 about1 = true := by
  rw [codes_eq]
  intro c hc
  simp only [codes1, List.mem_cons, List.not_mem_nil, or_false] at hc
  rcases hc with rfl | rfl
  · exact w_c0
  · exact w_c1
set_option maxRecDepth 65536 in
theorem w_t1 : (words1.take 24).all (fun c => isCode c || c.before args0 about1) = true := by decide +kernel
set_option maxRecDepth 65536 in
theorem w_t2 : (words1.drop 24).all (fun c => isCode c || c.before args0 about1) = true := by decide +kernel
theorem w_tables : (allAtoms (Jvm.Cond.code x code maxLocals ret :: tables_1)).before args0 about1 = true := by
  rw [allAtoms_all]
  show words1.all (fun c => c.before args0 about1) = true
  refine all_split ?_ w_codes
  rw [← List.take_append_drop 24 words1, List.all_append, w_t1, w_t2]
  rfl
set_option maxRecDepth 65536 in
theorem w_case : (Jvm.Cond.and given_1 narrow_1).before args0 about1 = true := by decide +kernel
theorem w_applies : (headSpec (Jvm.Cond.code x code maxLocals ret :: tables_1) room_1).applies x e0.platform about1 = true :=
  (Spec.applies_iff w_frames).mpr ⟨w_running, w_runnable, w_alone, w_named, w_hears, w_ripe, w_room, w_tables⟩
theorem atStart : AtStart classFile x code maxLocals ret World_1 tables_1 room_1 Calls_1 rest_1 Pre_1 launch0 p0 e0 about1 theMethod args0 below0 :=
  ⟨lists_1, trivial, launch0.admits_env _ _ _, launch0.least_env, fairChoices_fair.cas, fairChoices_fair.clock, w_frames, w_args, w_heap, w_applies, trivial, trivial, w_case⟩
end start1
theorem witness_1 : WitnessClaimed_1 := ⟨start1.p0, start1.e0, start1.about1, start1.theMethod, start1.args0, start1.below0, start1.atStart⟩
end Jvm.Pilot.@@N@@
