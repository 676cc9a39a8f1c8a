import JvmDerived
import JvmDerived.Pilot.@@N@@Statement
import JvmDerived.Pilot.@@N@@Code
set_option linter.unusedVariables false
set_option linter.unusedSimpArgs false
@@BLOCK:NumsL.lean.txt@@
namespace Jvm.Pilot.@@N@@
open Jvm Jvm.ClassFile Sem Op Lib Jvm.Free Jvm.Stand Jvm.LawKit Jvm.RoadKit Bundle Jvm.Pilot.@@N@@.Jvm.D
section Own
variable {p : Program} {l : Launch} {e : Env} {R : Room} {s : State} {m : MethodId} {args : Array Value} {below : List Frame} {meth : Method} {c : Code} {T : State} {locs : List Loc} {cells slots : Nat} {Z : State} {a0 : Array Value} {h : Heap}
/-- from here the walk comes to an end that P holds of -/
def own_G (p : Program) (e : Env) (below : List Frame) (P : State → Outcome → Prop) (T : State) (g : JFrame) : Prop := ∃ t o, Steps p.tables e below (T.setTop g) t ∧ P t o
def own_P (below : List Frame) (s : State) (rm : Room) (Q : Option Value → Heap → List Loc → Prop) (t : State) (o : Outcome) : Prop := t.status = .running ∧ Ended t below o ∧ ∃ v L, o = .returned v ∧ Q v t.heap L ∧ FrameEnd s o t L rm.cells rm.slots
/-- a body's contract: over these arguments and this heap it returns, and Q holds of what it returns, the heap and the places written -/
def own_M (l : Launch) (Z : State) (y : MethodName) (code : ByteArray) (maxL : Nat) (ret : Option FieldType) (rm : Room) (as : Array Value) (h : Heap) (Q : Option Value → Heap → List Loc → Prop) : Prop :=
  ∀ ws : List Jvm.Cond, MetFree l y (head1 (Jvm.Cond.code y code maxL ret :: ws) rm) (fun a U => a = as ∧ Z.Warmed39 U.vm ∧ U.heap = h) (fun _ _ _ _ _ => True) (fun _ U o U' => ∃ v L, o = .returned v ∧ Q v U'.heap L ∧ FrameEnd U o U' L rm.cells rm.slots)
theorem own_go {P : State → Outcome → Prop} {T' : State} {g g' : JFrame} (st : ∀ t, Steps p.tables e below (T'.setTop g') t → Steps p.tables e below (T.setTop g) t) (k : own_G p e below P T' g') : own_G p e below P T g := by
  obtain ⟨t, o, h1, h2⟩ := k
  exact ⟨t, o, st t h1, h2⟩
theorem own_body {y : MethodName} {code : ByteArray} {maxL : Nat} {ret : Option FieldType} {rm : Room} {as : Array Value} {Q : Option Value → Heap → List Loc → Prop} (hn : plainName y.cls = true)
    (body : ∀ (p : Program) (e : Env) (s : State) (m : MethodId) (below : List Frame) (meth : Method) (c : Code) (T : State), p.tables.exec = Jvm.exec → c.code = code → c.maxLocals = maxL → meth.locks = false → s.vm.findClass y.cls = some m.cls → meth.sig.returnType = ret → meth.name = y.name → Z.Warmed39 s.vm → Stand p l e rm s m as below meth c T [] 0 0 → T.heap = h → own_G p e below (own_P below s rm Q) T (entryFrame m as maxL)) :
    own_M l Z y code maxL ret rm as h Q := by
  intro ws
  refine MetFree.of_bodySF (plainFor_of_name hn) hisR ?_
  intro p e s m args below meth c s₁ Bd hml0 hP hK
  obtain ⟨rfl, hZ, hh⟩ := hP
  obtain ⟨t, o, h1, h2, h3, h4⟩ := body p e s m below meth c s₁ Bd.exec Bd.bytes hml0 Bd.notSynchronized (findClass_of_methodNamed Bd.named) Bd.returns (name_of_methodNamed Bd.named Bd.method).1 hZ (Stand.of_body Bd) (by rw [← hh, Bd.state]; rfl)
  exact ⟨t, o, h1, h2, h3, h4⟩
theorem own_retI {rm : Room} {Q : Option Value → Heap → List Loc → Prop} (X : Stand p l e R s m args below meth c T locs cells slots) (hx : p.tables.exec = Jvm.exec) (hlk : meth.locks = false) (hret : meth.sig.returnType = some .int) {pc : Nat} {Ls : Array Slot} {z : Int32} {rest : List Value} (hd : decode c.code pc = .ok (.ireturn, 1)) (hc : cells ≤ rm.cells) (hs : slots ≤ rm.slots) (hQ : Q (some (.int z)) T.heap locs) :
    own_G p e below (own_P below s rm Q) T (mkF m pc Ls (.int z :: rest)) := by
  obtain ⟨fs, hr, hrun, hended, hW, hsame⟩ := X.leave (v := some (.int z)) (fun h => by rw [hret] at h; cases h) hlk
  exact ⟨_, _, retOut X hx hret rfl (Or.inl ⟨rfl, Or.inl rfl, _, rfl⟩) hd hr, hrun, hended, _, _, rfl, hQ, ⟨_, rfl⟩, hW, hsame.mono hc hs⟩
theorem own_retN {rm : Room} {Q : Option Value → Heap → List Loc → Prop} (X : Stand p l e R s m args below meth c T locs cells slots) (hx : p.tables.exec = Jvm.exec) (hlk : meth.locks = false) {t : FieldType} (hret : meth.sig.returnType = some t) (ht : t = .boolean ∨ t = .byte ∨ t = .char ∨ t = .short) {pc : Nat} {Ls : Array Slot} {z : Int32} {rest : List Value} (hd : decode c.code pc = .ok (.ireturn, 1)) (hc : cells ≤ rm.cells) (hs : slots ≤ rm.slots) (hQ : Q (some (.int (nar t z))) T.heap locs) :
    own_G p e below (own_P below s rm Q) T (mkF m pc Ls (.int z :: rest)) := by
  obtain ⟨fs, hr, hrun, hended, hW, hsame⟩ := X.leave (v := some (.int (nar t z))) (fun h => by rw [hret] at h; cases h) hlk
  exact ⟨_, _, retN X hx hret ht hd hr, hrun, hended, _, _, rfl, hQ, ⟨_, rfl⟩, hW, hsame.mono hc hs⟩
theorem own_narrow {t : FieldType} {w : Value} (hw : w.isRef = true) : narrow t w = w := by
  rcases ref_cases hw with rfl | ⟨a, rfl⟩ <;> cases t <;> rfl
theorem own_retA {rm : Room} {Q : Option Value → Heap → List Loc → Prop} (X : Stand p l e R s m args below meth c T locs cells slots) (hx : p.tables.exec = Jvm.exec) (hlk : meth.locks = false) {t : FieldType} (hret : meth.sig.returnType = some t) (ht : t.isReference = true) {pc : Nat} {Ls : Array Slot} {w : Value} {rest : List Value} (hw : w.isRef = true) (hd : decode c.code pc = .ok (.areturn, 1)) (hc : cells ≤ rm.cells) (hs : slots ≤ rm.slots) (hQ : Q (some w) T.heap locs) :
    own_G p e below (own_P below s rm Q) T (mkF m pc Ls (w :: rest)) := by
  obtain ⟨fs, hr, hrun, hended, hW, hsame⟩ := X.leave (v := some w) (fun h => by rw [hret] at h; cases h) hlk
  exact ⟨_, _, retOut X hx hret (own_narrow hw) (Or.inr (Or.inr (Or.inr (Or.inr ⟨rfl, ht, hw⟩)))) hd hr, hrun, hended, _, _, rfl, hQ, ⟨_, rfl⟩, hW, hsame.mono hc hs⟩
theorem own_ret0 {rm : Room} {Q : Option Value → Heap → List Loc → Prop} (X : Stand p l e R s m args below meth c T locs cells slots) (hx : p.tables.exec = Jvm.exec) (hlk : meth.locks = false) (hret : meth.sig.returnType = none) {pc : Nat} {Ls : Array Slot} (hd : decode c.code pc = .ok (.return_, 1)) (hc : cells ≤ rm.cells) (hs : slots ≤ rm.slots) (hQ : Q none T.heap locs) :
    own_G p e below (own_P below s rm Q) T (mkF m pc Ls []) := by
  obtain ⟨fs, hr, hrun, hended, hW, hsame⟩ := X.leave (v := none) (fun _ => rfl) hlk
  exact ⟨_, _, X.returnOut hx hret hd hr, hrun, hended, _, _, rfl, hQ, ⟨_, rfl⟩, hW, hsame.mono hc hs⟩
theorem own_callS (X : Stand p l e R s m args below meth c T locs cells slots) (hx : p.tables.exec = Jvm.exec) (hZ : Z.Warmed39 s.vm) {own : String} {index : Nat} {y : MethodName} {bytes : ByteArray} {maxL : Nat} {ret : Option FieldType} (hown : s.vm.findClass own = some m.cls)
    (w1 : (Jvm.Cond.methodLink own index y).before a0 Z = true) (w2 : (Jvm.Cond.static y).before a0 Z = true) (w3 : (Jvm.Cond.initialized y.cls).before a0 Z = true) (w4 : (Jvm.Cond.code y bytes maxL ret).before a0 Z = true) (hy : y.cls ≠ "java/lang/invoke/MethodHandle" ∧ y.cls ≠ "java/lang/invoke/VarHandle")
    {rm : Room} {argsL rest : List Value} {Q : Option Value → Heap → List Loc → Prop} (hM : own_M l Z y bytes maxL ret rm argsL.toArray h Q) (eT : T.heap = h) {g : JFrame} (hg : g.method = m) (hsize : g.locals.size = c.maxLocals) {ps : List FieldType} {r : Option FieldType} (hpd : parseMethodDescriptor y.desc = some ⟨ps, r⟩) (hpl : argsL.length = ps.length)
    (hstack : g.stack = argsL.reverse ++ rest) {W : Nat} (hW : 2 * g.monitorRoom + (rest.map fun v => v.category).sum ≤ W) (hdg : decode c.code g.pc = .ok (.invokestatic index, 3)) (hf : rm.frames + 1 ≤ R.frames) (hl : W + (maxL + 11) + rm.locals ≤ R.locals) (hc : cells + rm.cells ≤ R.cells) (hs : slots + rm.slots ≤ R.slots) :
    ∃ (T' : State) (L : List Loc) (v : Option Value), Stand p l e R s m args below meth c T' (locs ++ L) (cells + rm.cells) (slots + rm.slots) ∧ Q v T'.heap L ∧ ∀ t, Steps p.tables e below (T'.setTop { g with pc := g.pc + 3, stack := v.toList ++ rest }) t → Steps p.tables e below (T.setTop g) t := by
  obtain ⟨v, vm₁, ⟨T', L', k', n'⟩, -, X', ⟨L, hQ, e1, e2, e3⟩, st⟩ := Jvm.LawKit.callS X hx (y := y) hown (mvT hZ w1) (mvT hZ w2) (mvT hZ w3) (mvT hZ w4) hy (backOf (W := W) (hM []) hZ w4 w3 hf hl) hg hsize (argsL := argsL) (rest := rest) (lenOf hpd hpl) hstack hW hdg (fun _ _ => ⟨rfl, eT, hc, hs⟩)
  dsimp only [Pt.U, Pt.locs, Pt.cells, Pt.slots] at X' e1 e2 e3 st hQ
  subst e1 e2 e3
  exact ⟨T', L, v, X', hQ, st⟩
theorem own_callV (X : Stand p l e R s m args below meth c T locs cells slots) (hx : p.tables.exec = Jvm.exec) (hZ : Z.Warmed39 s.vm) {own C : String} {index : Nat} {y z : MethodName} {bytes : ByteArray} {maxL : Nat} {ret : Option FieldType} (hown : s.vm.findClass own = some m.cls)
    (w1 : (Jvm.Cond.methodLink own index y).before a0 Z = true) (w2 : (Jvm.Cond.declares y).before a0 Z = true) (w3 : (Jvm.Cond.selects y.cls y z).before a0 Z = true) (w3' : (Jvm.Cond.selects C y z).before a0 Z = true) (w4 : (Jvm.Cond.instanceMethod z).before a0 Z = true) (w5 : (Jvm.Cond.code z bytes maxL ret).before a0 Z = true) (w6 : (Jvm.Cond.initialized z.cls).before a0 Z = true) (hnf : NotFace s y)
    (hy : y.cls ≠ "java/lang/invoke/MethodHandle" ∧ y.cls ≠ "java/lang/invoke/VarHandle")
    {rm : Room} {a : Addr} {argsL rest : List Value} {Q : Option Value → Heap → List Loc → Prop} (hM : own_M l Z z bytes maxL ret rm (.ref a :: argsL).toArray h Q) (eT : T.heap = h) (E : Exa Z h a C) {g : JFrame} (hg : g.method = m) (hsize : g.locals.size = c.maxLocals) {ps : List FieldType} {r : Option FieldType} (hpd : parseMethodDescriptor y.desc = some ⟨ps, r⟩) (hpl : argsL.length = ps.length)
    (hstack : g.stack = argsL.reverse ++ .ref a :: rest) {W : Nat} (hW : 2 * g.monitorRoom + (rest.map fun v => v.category).sum ≤ W) (hdg : decode c.code g.pc = .ok (.invokevirtual index, 3)) (hf : rm.frames + 1 ≤ R.frames) (hl : W + (maxL + 11) + rm.locals ≤ R.locals) (hc : cells + rm.cells ≤ R.cells) (hs : slots + rm.slots ≤ R.slots) :
    ∃ (T' : State) (L : List Loc) (v : Option Value), Stand p l e R s m args below meth c T' (locs ++ L) (cells + rm.cells) (slots + rm.slots) ∧ Q v T'.heap L ∧ ∀ t, Steps p.tables e below (T'.setTop { g with pc := g.pc + 3, stack := v.toList ++ rest }) t → Steps p.tables e below (T.setTop g) t := by
  obtain ⟨cq, kq, qa, qb, qc⟩ := isOf hZ eT E
  obtain ⟨v, vm₁, ⟨T', L', k', n'⟩, -, X', ⟨L, hQ, e1, e2, e3⟩, st⟩ := X.virtualBack hx (y := y) (z := z) hown (mvT hZ w1) (mvT hZ w2) hnf (mvT hZ w3') (mvT hZ w4) hy (backOf (W := W) (hM []) hZ w5 w6 hf hl) qa qc hg hsize (Steps.refl _) (argsL := argsL) (rest := rest) (lenOf hpd hpl) hstack hW hdg (fun _ _ => ⟨rfl, eT, hc, hs⟩)
  dsimp only [Pt.U, Pt.locs, Pt.cells, Pt.slots] at X' e1 e2 e3 st hQ
  subst e1 e2 e3
  exact ⟨T', L, v, X', hQ, fun t k => st.trans k⟩
theorem own_callU (X : Stand p l e R s m args below meth c T locs cells slots) (hx : p.tables.exec = Jvm.exec) (hZ : Z.Warmed39 s.vm) {own C owner : String} {index : Nat} {y z : MethodName} {bytes : ByteArray} {maxL : Nat} {ret : Option FieldType} (hown : s.vm.findClass own = some m.cls)
    (w1 : (Jvm.Cond.methodLink own index y).before a0 Z = true) (w2 : (Jvm.Cond.sameMethod y.cls owner y.name y.desc).before a0 Z = true) (w2' : (Jvm.Cond.declares ⟨owner, y.name, y.desc⟩).before a0 Z = true) (w3 : (Jvm.Cond.selects C y z).before a0 Z = true) (w4 : (Jvm.Cond.instanceMethod z).before a0 Z = true) (w5 : (Jvm.Cond.code z bytes maxL ret).before a0 Z = true) (w6 : (Jvm.Cond.initialized z.cls).before a0 Z = true)
    (hy : owner ≠ "java/lang/invoke/MethodHandle" ∧ owner ≠ "java/lang/invoke/VarHandle")
    {rm : Room} {a : Addr} {argsL rest : List Value} {Q : Option Value → Heap → List Loc → Prop} (hM : own_M l Z z bytes maxL ret rm (.ref a :: argsL).toArray h Q) (eT : T.heap = h) (E : Exa Z h a C) {g : JFrame} (hg : g.method = m) (hsize : g.locals.size = c.maxLocals) {ps : List FieldType} {r : Option FieldType} (hpd : parseMethodDescriptor y.desc = some ⟨ps, r⟩) (hpl : argsL.length = ps.length)
    (hstack : g.stack = argsL.reverse ++ .ref a :: rest) {W : Nat} (hW : 2 * g.monitorRoom + (rest.map fun v => v.category).sum ≤ W) (hdg : decode c.code g.pc = .ok (.invokevirtual index, 3)) (hf : rm.frames + 1 ≤ R.frames) (hl : W + (maxL + 11) + rm.locals ≤ R.locals) (hc : cells + rm.cells ≤ R.cells) (hs : slots + rm.slots ≤ R.slots) :
    ∃ (T' : State) (L : List Loc) (v : Option Value), Stand p l e R s m args below meth c T' (locs ++ L) (cells + rm.cells) (slots + rm.slots) ∧ Q v T'.heap L ∧ ∀ t, Steps p.tables e below (T'.setTop { g with pc := g.pc + 3, stack := v.toList ++ rest }) t → Steps p.tables e below (T.setTop g) t := by
  obtain ⟨cq, kq, qa, qb, qc⟩ := isOf hZ eT E
  obtain ⟨v, vm₁, ⟨T', L', k', n'⟩, -, X', ⟨L, hQ, e1, e2, e3⟩, st⟩ := X.virtualBackUp hx (x := y) (y := z) hown (mvT hZ w1) (mvT hZ w2) (mvT hZ w2') hy (mvT hZ w3) (mvT hZ w4) (backOf (W := W) (hM []) hZ w5 w6 hf hl) qa qc hg hsize (Steps.refl _) (argsL := argsL) (rest := rest) (lenOf hpd hpl) hstack hW hdg (fun _ _ => ⟨rfl, eT, hc, hs⟩)
  dsimp only [Pt.U, Pt.locs, Pt.cells, Pt.slots] at X' e1 e2 e3 st hQ
  subst e1 e2 e3
  exact ⟨T', L, v, X', hQ, fun t k => st.trans k⟩
theorem own_neL {i K : Int32} {k : Int} (h : ¬ i = K) (hk : K.toInt = k) : k ≠ i.toInt := fun q => h (Int32.toInt_inj.mp (by rw [hk, q]))
abbrev own_cell (cA : ClassId) (vs : Array Value) : Cell := { cls := cA, slots := vs, vm := .none }
theorem own_in {cl : Cell} {j : Int32} {n : Nat} (hs : cl.slots.size = n) (hj : ¬ (j < 0 ∨ n ≤ j.toNatClampNeg)) : ¬ (j < 0 ∨ cl.slots.size ≤ j.toNatClampNeg) := by rw [hs]; exact hj
theorem own_ext_refl (h : Heap) : Ext h h := ⟨Nat.le_refl _, fun _ _ q => q⟩
theorem own_ext_trans {h0 h h' : Heap} (E : Ext h0 h) (E' : Ext h h') : Ext h0 h' := ⟨Nat.le_trans E.1 E'.1, fun a c q => E'.2 a c (E.2 a c q)⟩
theorem own_ext_eq {h0 h h' : Heap} (E : Ext h0 h) (q : h' = h) : Ext h0 h' := q ▸ E
theorem own_acVF {v w : Value} (q : v = w) : Jvm.Free.XT.acmp .ne v w = false := by subst q; simp [Jvm.Free.XT.acmp]
theorem own_ext_wr {h0 h h' : Heap} {a : Addr} {sl : Nat} {v : Value} (E : Ext h0 h) (W : Wr h h' a sl v) (q : h0.size ≤ a) : Ext h0 h' := by
  refine ⟨by rw [W.size]; exact E.1, fun x cx hx => ?_⟩
  obtain ⟨c', e1, -, -, -, e5, -⟩ := wr_at W (E.2 x cx hx)
  rw [← e5 (Nat.ne_of_lt (Nat.lt_of_lt_of_le (Array.getElem?_eq_some_iff.mp hx).1 q))]
  exact e1
theorem own_fld {t : Term} {a : Addr} {C n d : String} {k : Int32} (ev : t.eval args Z none [] Z = some (.ref a)) (w : (Jvm.Cond.eq (.field t C n d) (.int k)).value args Z none Z [] = some true) : Fld Z Z.heap a C n d (.int k) := by
  obtain ⟨x, y, e1, e2, k1, k2⟩ := cmp_v (Or.inl w)
  obtain rfl : y = .int k := (Option.some.inj e2).symm
  obtain ⟨z, rfl⟩ := k2
  have hz := gotT (Jvm.Cond.eq_ints e1 e2) w
  rw [fld_at ev] at e1
  rw [hz] at e1
  exact Fld.start e1
theorem own_len {t : Term} {a : Addr} {cl : Cell} {ty : FieldType} {k : Int32} (ev : t.eval args Z none [] Z = some (.ref a)) (A : Arr Z Z.heap a cl ty) (w : (Jvm.Cond.eq (.length t) (.int k)).value args Z none Z [] = some true) : cl.slots.size = k.toInt.toNat := by
  obtain ⟨x, y, e1, e2, k1, k2⟩ := cmp_v (Or.inl w)
  obtain rfl : y = .int k := (Option.some.inj e2).symm
  obtain ⟨z, rfl⟩ := k2
  have hz := gotT (Jvm.Cond.eq_ints e1 e2) w
  have hA : Z.arrayAt? a = some cl := Arr.fin (Vm.Alike.refl _) A
  by_cases hl : cl.slots.size < 2 ^ 31
  · rw [len_f ev hA hl] at e1
    have h1 : cl.slots.size.toInt32 = z := Value.int.inj (Option.some.inj e1)
    rw [← hz, ← h1, len_toInt hl]
    rfl
  · simp [Term.eval, ev, hA, hl] at e1
theorem own_elemI {t : Term} {a : Addr} {cl : Cell} {ty : FieldType} {j k : Int32} (ev : t.eval args Z none [] Z = some (.ref a)) (A : Arr Z Z.heap a cl ty) (w : (Jvm.Cond.eq (.elem t (.int j)) (.int k)).value args Z none Z [] = some true) : cl.slots[j.toNatClampNeg]? = some (.int k) := by
  obtain ⟨x, y, e1, e2, k1, k2⟩ := cmp_v (Or.inl w)
  obtain rfl : y = .int k := (Option.some.inj e2).symm
  obtain ⟨z, rfl⟩ := k2
  have hz := gotT (Jvm.Cond.eq_ints e1 e2) w
  rw [← hz]
  exact (elem_in e1 ev (Term.int_eval j) A.1).2
theorem own_elemR {t u : Term} {a b : Addr} {cl : Cell} {ty : FieldType} {j : Int32} (ev : t.eval args Z none [] Z = some (.ref a)) (A : Arr Z Z.heap a cl ty) (ev' : u.eval args Z none [] Z = some (.ref b)) (w : (Jvm.Cond.eq (.elem t (.int j)) u).value args Z none Z [] = some true) : cl.slots[j.toNatClampNeg]? = some (.ref b) := by
  obtain ⟨x, y, e1, e2, k1, k2⟩ := cmp_v (Or.inl w)
  obtain rfl : y = .ref b := (Option.some.inj (ev'.symm.trans e2)).symm
  have hz := gotT (eq_R e1 e2 k2.2 rfl) w
  rw [← hz]
  exact (elem_in e1 ev (Term.int_eval j) A.1).2
theorem own_neV {a b : Int32} (h : a ≠ b) : (Value.int a) ≠ Value.int b := fun q => h (Value.int.inj q)
theorem own_acT {a b : Addr} (h : a = b) : Jvm.Free.XT.acmp .eq (.ref a) (.ref b) = true := by subst h; simp [Jvm.Free.XT.acmp]
theorem own_acF {a b : Addr} (h : a ≠ b) : Jvm.Free.XT.acmp .eq (.ref a) (.ref b) = false := by simp [Jvm.Free.XT.acmp, h]
theorem own_acnT {a b : Addr} (h : a ≠ b) : Jvm.Free.XT.acmp .ne (.ref a) (.ref b) = true := by simp [Jvm.Free.XT.acmp, h]
theorem own_acnF {a b : Addr} (h : a = b) : Jvm.Free.XT.acmp .ne (.ref a) (.ref b) = false := by subst h; simp [Jvm.Free.XT.acmp]
theorem own_mask (x : Int32) : 0 ≤ (x &&& 2147483647).toInt := by
  have := Jvm.Kit.i32_mask x 2147483647 (k := 31) (by decide) (by decide)
  omega
theorem own_rem (y n : Int32) (h0 : 0 ≤ y.toInt) (hn : 0 < n.toInt) : 0 ≤ (y % n).toInt ∧ (y % n).toInt < n.toInt := by
  rw [Int32.toInt_mod]
  exact ⟨Int.tmod_nonneg _ h0, by
    have := Int.tmod_lt_of_pos y.toInt hn
    exact this⟩
end Own
end Jvm.Pilot.@@N@@
namespace Jvm.Pilot.@@N@@
open Jvm Jvm.ClassFile Sem Op Lib Jvm.Free Jvm.Stand Jvm.LawKit Jvm.RoadKit Bundle Jvm.Pilot.@@N@@.Jvm.D
def own_B (Z : State) (h : Heap) (a_NOT_NULL a_UNKNOWN a_NULL a_NULLABLE : Addr) : Prop := Sta Z h "com/example/nullsight/nullsight/check/Nullness" "NOT_NULL" "Lcom/example/nullsight/nullsight/check/Nullness;" (.ref a_NOT_NULL) ∧ Exa Z h a_NOT_NULL "com/example/nullsight/nullsight/check/Nullness" ∧ Sta Z h "com/example/nullsight/nullsight/check/Nullness" "UNKNOWN" "Lcom/example/nullsight/nullsight/check/Nullness;" (.ref a_UNKNOWN) ∧ Exa Z h a_UNKNOWN "com/example/nullsight/nullsight/check/Nullness" ∧ Sta Z h "com/example/nullsight/nullsight/check/Nullness" "NULL" "Lcom/example/nullsight/nullsight/check/Nullness;" (.ref a_NULL) ∧ Exa Z h a_NULL "com/example/nullsight/nullsight/check/Nullness" ∧ Sta Z h "com/example/nullsight/nullsight/check/Nullness" "NULLABLE" "Lcom/example/nullsight/nullsight/check/Nullness;" (.ref a_NULLABLE) ∧ Exa Z h a_NULLABLE "com/example/nullsight/nullsight/check/Nullness" ∧ Fld Z h a_NULLABLE "java/lang/Enum" "ordinal" "I" (.int (3 : Int32)) ∧ Fld Z h a_NOT_NULL "java/lang/Enum" "ordinal" "I" (.int (0 : Int32)) ∧ Fld Z h a_NULL "java/lang/Enum" "ordinal" "I" (.int (2 : Int32)) ∧ Fld Z h a_UNKNOWN "java/lang/Enum" "ordinal" "I" (.int (1 : Int32))
theorem own_B_ext {Z : State} {h h' : Heap} {a_NOT_NULL a_UNKNOWN a_NULL a_NULLABLE : Addr} (E : Ext h h') (B : own_B Z h a_NOT_NULL a_UNKNOWN a_NULL a_NULLABLE) : own_B Z h' a_NOT_NULL a_UNKNOWN a_NULL a_NULLABLE := by
  obtain ⟨S_NOT_NULL, E_NOT_NULL, S_UNKNOWN, E_UNKNOWN, S_NULL, E_NULL, S_NULLABLE, E_NULLABLE, F_NULLABLE_ordinal, F_NOT_NULL_ordinal, F_NULL_ordinal, F_UNKNOWN_ordinal⟩ := B
  exact ⟨S_NOT_NULL.ext E, E_NOT_NULL.ext E, S_UNKNOWN.ext E, E_UNKNOWN.ext E, S_NULL.ext E, E_NULL.ext E, S_NULLABLE.ext E, E_NULLABLE.ext E, F_NULLABLE_ordinal.ext E, F_NOT_NULL_ordinal.ext E, F_NULL_ordinal.ext E, F_UNKNOWN_ordinal.ext E⟩
theorem own_l4 (z : Int32) (h0 : 0 ≤ z.toInt) (h1 : z.toInt ≤ 3) : z = (0 : Int32) ∨ z = (1 : Int32) ∨ z = (2 : Int32) ∨ z = (3 : Int32) := by
  simp only [← Int32.toInt_inj]
  change z.toInt = 0 ∨ z.toInt = 1 ∨ z.toInt = 2 ∨ z.toInt = 3
  omega
def own_meet (a_NOT_NULL a_UNKNOWN a_NULL a_NULLABLE : Addr) (a1 : Addr) (b1 : Addr) : Value := (if a1 = a_NOT_NULL then (if b1 = a_NOT_NULL then (if a1 = b1 then (.ref a1) else .null) else (if b1 = a_NULL then (if a1 = b1 then (.ref a1) else .null) else (if a1 = b1 then (.ref a1) else (.ref a1)))) else (if a1 = a_NULL then (if b1 = a_NOT_NULL then (if a1 = b1 then (.ref a1) else .null) else (if b1 = a_NULL then (if a1 = b1 then (.ref a1) else .null) else (if a1 = b1 then (.ref a1) else (.ref a1)))) else (if b1 = a_NOT_NULL then (if a1 = b1 then (.ref a1) else (.ref b1)) else (if b1 = a_NULL then (if a1 = b1 then (.ref a1) else (.ref b1)) else (if a1 = b1 then (.ref a1) else (.ref a_UNKNOWN))))))
theorem d1_0 : decode prog_2_method_6_code 0 = .ok (.aload_n 0, 1) := by decide +kernel
theorem d1_1 : decode prog_2_method_6_code 1 = .ok (.getstatic 3, 3) := by decide +kernel
theorem d1_4 : decode prog_2_method_6_code 4 = .ok (.if_acmp .eq 10, 3) := by decide +kernel
theorem d1_7 : decode prog_2_method_6_code 7 = .ok (.aload_n 0, 1) := by decide +kernel
theorem d1_8 : decode prog_2_method_6_code 8 = .ok (.getstatic 10, 3) := by decide +kernel
theorem d1_11 : decode prog_2_method_6_code 11 = .ok (.if_acmp .ne 7, 3) := by decide +kernel
theorem d1_14 : decode prog_2_method_6_code 14 = .ok (.iconst 1, 1) := by decide +kernel
theorem d1_15 : decode prog_2_method_6_code 15 = .ok (.goto 4, 3) := by decide +kernel
theorem d1_18 : decode prog_2_method_6_code 18 = .ok (.iconst 0, 1) := by decide +kernel
theorem d1_19 : decode prog_2_method_6_code 19 = .ok (.istore_n 2, 1) := by decide +kernel
theorem d1_20 : decode prog_2_method_6_code 20 = .ok (.aload_n 1, 1) := by decide +kernel
theorem d1_21 : decode prog_2_method_6_code 21 = .ok (.getstatic 3, 3) := by decide +kernel
theorem d1_24 : decode prog_2_method_6_code 24 = .ok (.if_acmp .eq 10, 3) := by decide +kernel
theorem d1_27 : decode prog_2_method_6_code 27 = .ok (.aload_n 1, 1) := by decide +kernel
theorem d1_28 : decode prog_2_method_6_code 28 = .ok (.getstatic 10, 3) := by decide +kernel
theorem d1_31 : decode prog_2_method_6_code 31 = .ok (.if_acmp .ne 7, 3) := by decide +kernel
theorem d1_34 : decode prog_2_method_6_code 34 = .ok (.iconst 1, 1) := by decide +kernel
theorem d1_35 : decode prog_2_method_6_code 35 = .ok (.goto 4, 3) := by decide +kernel
theorem d1_38 : decode prog_2_method_6_code 38 = .ok (.iconst 0, 1) := by decide +kernel
theorem d1_39 : decode prog_2_method_6_code 39 = .ok (.istore_n 3, 1) := by decide +kernel
theorem d1_40 : decode prog_2_method_6_code 40 = .ok (.aload_n 0, 1) := by decide +kernel
theorem d1_41 : decode prog_2_method_6_code 41 = .ok (.aload_n 1, 1) := by decide +kernel
theorem d1_42 : decode prog_2_method_6_code 42 = .ok (.if_acmp .ne 9, 3) := by decide +kernel
theorem d1_45 : decode prog_2_method_6_code 45 = .ok (.aload_n 0, 1) := by decide +kernel
theorem d1_46 : decode prog_2_method_6_code 46 = .ok (.astore 4, 2) := by decide +kernel
theorem d1_48 : decode prog_2_method_6_code 48 = .ok (.goto 42, 3) := by decide +kernel
theorem d1_51 : decode prog_2_method_6_code 51 = .ok (.iload_n 2, 1) := by decide +kernel
theorem d1_52 : decode prog_2_method_6_code 52 = .ok (.ifCond .eq 13, 3) := by decide +kernel
theorem d1_55 : decode prog_2_method_6_code 55 = .ok (.iload_n 3, 1) := by decide +kernel
theorem d1_56 : decode prog_2_method_6_code 56 = .ok (.ifCond .eq 9, 3) := by decide +kernel
theorem d1_59 : decode prog_2_method_6_code 59 = .ok (.aconst_null, 1) := by decide +kernel
theorem d1_60 : decode prog_2_method_6_code 60 = .ok (.astore 4, 2) := by decide +kernel
theorem d1_62 : decode prog_2_method_6_code 62 = .ok (.goto 28, 3) := by decide +kernel
theorem d1_65 : decode prog_2_method_6_code 65 = .ok (.iload_n 2, 1) := by decide +kernel
theorem d1_66 : decode prog_2_method_6_code 66 = .ok (.ifCond .eq 9, 3) := by decide +kernel
theorem d1_69 : decode prog_2_method_6_code 69 = .ok (.aload_n 0, 1) := by decide +kernel
theorem d1_70 : decode prog_2_method_6_code 70 = .ok (.astore 4, 2) := by decide +kernel
theorem d1_72 : decode prog_2_method_6_code 72 = .ok (.goto 18, 3) := by decide +kernel
theorem d1_75 : decode prog_2_method_6_code 75 = .ok (.iload_n 3, 1) := by decide +kernel
theorem d1_76 : decode prog_2_method_6_code 76 = .ok (.ifCond .eq 9, 3) := by decide +kernel
theorem d1_79 : decode prog_2_method_6_code 79 = .ok (.aload_n 1, 1) := by decide +kernel
theorem d1_80 : decode prog_2_method_6_code 80 = .ok (.astore 4, 2) := by decide +kernel
theorem d1_82 : decode prog_2_method_6_code 82 = .ok (.goto 8, 3) := by decide +kernel
theorem d1_85 : decode prog_2_method_6_code 85 = .ok (.getstatic 7, 3) := by decide +kernel
theorem d1_88 : decode prog_2_method_6_code 88 = .ok (.astore 4, 2) := by decide +kernel
theorem d1_90 : decode prog_2_method_6_code 90 = .ok (.aload 4, 2) := by decide +kernel
theorem d1_92 : decode prog_2_method_6_code 92 = .ok (.areturn, 1) := by decide +kernel
theorem pn_1 : plainName "com/example/nullsight/nullsight/check/Nullness" = true := by first | (simp [plainName, overriddenIn]; done) | decide +kernel
set_option maxRecDepth 65536 in
set_option maxHeartbeats 40000000 in
theorem c_meet (l : Launch) (Z : State) (a0 : Array Value) (hw : ∀ d ∈ tables_1, d.before a0 Z = true) (a_NOT_NULL a_UNKNOWN a_NULL a_NULLABLE : Addr) (a1 : Addr) (b1 : Addr) (h0 : Heap) (B : own_B Z h0 a_NOT_NULL a_UNKNOWN a_NULL a_NULLABLE) :
    own_M l Z (⟨"com/example/nullsight/nullsight/check/Nullness", "meet", "(Lcom/example/nullsight/nullsight/check/Nullness;)Lcom/example/nullsight/nullsight/check/Nullness;"⟩ : MethodName) prog_2_method_6_code 5 (some (.object "com/example/nullsight/nullsight/check/Nullness")) ⟨0, 0, 0, 0⟩ #[.ref a1, .ref b1] h0 (fun v h L => v = some ((own_meet a_NOT_NULL a_UNKNOWN a_NULL a_NULLABLE a1 b1)) ∧ L = [] ∧ h = h0) := by
  refine own_body pn_1 ?_
  intro p e s m below meth c T0 hx hby hml hlk hown hret hnm hZ X0 e0
  replace hown : s.vm.findClass "com/example/nullsight/nullsight/check/Nullness" = some m.cls := hown
  replace hml : c.maxLocals = 5 := hml
  obtain ⟨S_NOT_NULL, E_NOT_NULL, S_UNKNOWN, E_UNKNOWN, S_NULL, E_NULL, S_NULLABLE, E_NULLABLE, F_NULLABLE_ordinal, F_NOT_NULL_ordinal, F_NULL_ordinal, F_UNKNOWN_ordinal⟩ := id B
  have ef : entryFrame m #[.ref a1, .ref b1] 5 = (mkF m 0 #[.val (.ref a1), .val (.ref b1), .unset, .unset, .unset] []) := by first | (simp [entryFrame, mkF, argsToLocals, Value.category]; done) | rfl
  rw [ef]
  refine own_go (fun t k => XS.aloadN X0.here hx rfl (hb hby d1_0) rfl rfl k) ?_
  show own_G p e below _ T0 (mkF m 1 #[.val (.ref a1), .val (.ref b1), .unset, .unset, .unset] [(.ref a1)])
  obtain ⟨T1, X1, e1, st1⟩ := getS X0 hx hZ hown (host := "") (hw _ (List.mem_of_getElem? (i := 18) rfl)) Via.refl e0 S_NOT_NULL (g := (mkF m 1 #[.val (.ref a1), .val (.ref b1), .unset, .unset, .unset] [(.ref a1)])) rfl (hb hby d1_1)
  refine own_go st1 ?_
  show own_G p e below _ T1 (mkF m 4 #[.val (.ref a1), .val (.ref b1), .unset, .unset, .unset] [(.ref a_NOT_NULL), (.ref a1)])
  by_cases hc2 : a1 = a_NOT_NULL
  ·
    refine own_go (fun t k => Jvm.Free.XT.acmpYes X1.here hx rfl (pc0 := 4) (pc' := 14) rfl (hb hby d1_4) rfl rfl rfl (own_acT hc2) (by decide) (by decide) k) ?_
    show own_G p e below _ T1 (mkF m 14 #[.val (.ref a1), .val (.ref b1), .unset, .unset, .unset] [])
    refine own_go (fun t k => XS.iconst X1.here hx rfl (hb hby d1_14) k) ?_
    show own_G p e below _ T1 (mkF m 15 #[.val (.ref a1), .val (.ref b1), .unset, .unset, .unset] [(.int (1 : Int32))])
    refine own_go (fun t k => XS.goto X1.here hx rfl (pc0 := 15) (pc' := 19) rfl (hb hby d1_15) (by decide) (by decide) k) ?_
    show own_G p e below _ T1 (mkF m 19 #[.val (.ref a1), .val (.ref b1), .unset, .unset, .unset] [(.int (1 : Int32))])
    refine own_go (fun t k => XS.istoreN X1.here hx rfl (hb hby d1_19) rfl (l' := #[.val (.ref a1), .val (.ref b1), .val (.int (1 : Int32)), .unset, .unset]) rfl k) ?_
    show own_G p e below _ T1 (mkF m 20 #[.val (.ref a1), .val (.ref b1), .val (.int (1 : Int32)), .unset, .unset] [])
    refine own_go (fun t k => XS.aloadN X1.here hx rfl (hb hby d1_20) rfl rfl k) ?_
    show own_G p e below _ T1 (mkF m 21 #[.val (.ref a1), .val (.ref b1), .val (.int (1 : Int32)), .unset, .unset] [(.ref b1)])
    obtain ⟨T3, X3, e3, st3⟩ := getS X1 hx hZ hown (host := "") (hw _ (List.mem_of_getElem? (i := 18) rfl)) Via.refl e1 S_NOT_NULL (g := (mkF m 21 #[.val (.ref a1), .val (.ref b1), .val (.int (1 : Int32)), .unset, .unset] [(.ref b1)])) rfl (hb hby d1_21)
    refine own_go st3 ?_
    show own_G p e below _ T3 (mkF m 24 #[.val (.ref a1), .val (.ref b1), .val (.int (1 : Int32)), .unset, .unset] [(.ref a_NOT_NULL), (.ref b1)])
    by_cases hc4 : b1 = a_NOT_NULL
    ·
      refine own_go (fun t k => Jvm.Free.XT.acmpYes X3.here hx rfl (pc0 := 24) (pc' := 34) rfl (hb hby d1_24) rfl rfl rfl (own_acT hc4) (by decide) (by decide) k) ?_
      show own_G p e below _ T3 (mkF m 34 #[.val (.ref a1), .val (.ref b1), .val (.int (1 : Int32)), .unset, .unset] [])
      refine own_go (fun t k => XS.iconst X3.here hx rfl (hb hby d1_34) k) ?_
      show own_G p e below _ T3 (mkF m 35 #[.val (.ref a1), .val (.ref b1), .val (.int (1 : Int32)), .unset, .unset] [(.int (1 : Int32))])
      refine own_go (fun t k => XS.goto X3.here hx rfl (pc0 := 35) (pc' := 39) rfl (hb hby d1_35) (by decide) (by decide) k) ?_
      show own_G p e below _ T3 (mkF m 39 #[.val (.ref a1), .val (.ref b1), .val (.int (1 : Int32)), .unset, .unset] [(.int (1 : Int32))])
      refine own_go (fun t k => XS.istoreN X3.here hx rfl (hb hby d1_39) rfl (l' := #[.val (.ref a1), .val (.ref b1), .val (.int (1 : Int32)), .val (.int (1 : Int32)), .unset]) rfl k) ?_
      show own_G p e below _ T3 (mkF m 40 #[.val (.ref a1), .val (.ref b1), .val (.int (1 : Int32)), .val (.int (1 : Int32)), .unset] [])
      refine own_go (fun t k => XS.aloadN X3.here hx rfl (hb hby d1_40) rfl rfl k) ?_
      show own_G p e below _ T3 (mkF m 41 #[.val (.ref a1), .val (.ref b1), .val (.int (1 : Int32)), .val (.int (1 : Int32)), .unset] [(.ref a1)])
      refine own_go (fun t k => XS.aloadN X3.here hx rfl (hb hby d1_41) rfl rfl k) ?_
      show own_G p e below _ T3 (mkF m 42 #[.val (.ref a1), .val (.ref b1), .val (.int (1 : Int32)), .val (.int (1 : Int32)), .unset] [(.ref b1), (.ref a1)])
      by_cases hc5 : a1 = b1
      ·
        refine own_go (fun t k => Jvm.Free.XT.acmpNo X3.here hx rfl (hb hby d1_42) rfl rfl rfl (own_acnF hc5) k) ?_
        show own_G p e below _ T3 (mkF m 45 #[.val (.ref a1), .val (.ref b1), .val (.int (1 : Int32)), .val (.int (1 : Int32)), .unset] [])
        refine own_go (fun t k => XS.aloadN X3.here hx rfl (hb hby d1_45) rfl rfl k) ?_
        show own_G p e below _ T3 (mkF m 46 #[.val (.ref a1), .val (.ref b1), .val (.int (1 : Int32)), .val (.int (1 : Int32)), .unset] [(.ref a1)])
        refine own_go (fun t k => XS.astore X3.here hx rfl (hb hby d1_46) rfl rfl (l' := #[.val (.ref a1), .val (.ref b1), .val (.int (1 : Int32)), .val (.int (1 : Int32)), .val (.ref a1)]) rfl k) ?_
        show own_G p e below _ T3 (mkF m 48 #[.val (.ref a1), .val (.ref b1), .val (.int (1 : Int32)), .val (.int (1 : Int32)), .val (.ref a1)] [])
        refine own_go (fun t k => XS.goto X3.here hx rfl (pc0 := 48) (pc' := 90) rfl (hb hby d1_48) (by decide) (by decide) k) ?_
        show own_G p e below _ T3 (mkF m 90 #[.val (.ref a1), .val (.ref b1), .val (.int (1 : Int32)), .val (.int (1 : Int32)), .val (.ref a1)] [])
        refine own_go (fun t k => XS.aload X3.here hx rfl (hb hby d1_90) rfl rfl k) ?_
        show own_G p e below _ T3 (mkF m 92 #[.val (.ref a1), .val (.ref b1), .val (.int (1 : Int32)), .val (.int (1 : Int32)), .val (.ref a1)] [(.ref a1)])
        exact own_retA X3 hx hlk hret rfl rfl (hb hby d1_92) (by decide) (by decide) ⟨congrArg some (Eq.symm (show (own_meet a_NOT_NULL a_UNKNOWN a_NULL a_NULLABLE a1 b1) = (.ref a1) from (by unfold own_meet; rw [if_pos hc2, if_pos hc4, if_pos hc5]))), rfl, e3⟩
      ·
        refine own_go (fun t k => Jvm.Free.XT.acmpYes X3.here hx rfl (pc0 := 42) (pc' := 51) rfl (hb hby d1_42) rfl rfl rfl (own_acnT hc5) (by decide) (by decide) k) ?_
        show own_G p e below _ T3 (mkF m 51 #[.val (.ref a1), .val (.ref b1), .val (.int (1 : Int32)), .val (.int (1 : Int32)), .unset] [])
        refine own_go (fun t k => XS.iloadN X3.here hx rfl (hb hby d1_51) rfl k) ?_
        show own_G p e below _ T3 (mkF m 52 #[.val (.ref a1), .val (.ref b1), .val (.int (1 : Int32)), .val (.int (1 : Int32)), .unset] [(.int (1 : Int32))])
        refine own_go (fun t k => XS.ifNo X3.here hx rfl (hb hby d1_52) rfl (by decide) k) ?_
        show own_G p e below _ T3 (mkF m 55 #[.val (.ref a1), .val (.ref b1), .val (.int (1 : Int32)), .val (.int (1 : Int32)), .unset] [])
        refine own_go (fun t k => XS.iloadN X3.here hx rfl (hb hby d1_55) rfl k) ?_
        show own_G p e below _ T3 (mkF m 56 #[.val (.ref a1), .val (.ref b1), .val (.int (1 : Int32)), .val (.int (1 : Int32)), .unset] [(.int (1 : Int32))])
        refine own_go (fun t k => XS.ifNo X3.here hx rfl (hb hby d1_56) rfl (by decide) k) ?_
        show own_G p e below _ T3 (mkF m 59 #[.val (.ref a1), .val (.ref b1), .val (.int (1 : Int32)), .val (.int (1 : Int32)), .unset] [])
        refine own_go (fun t k => XS.aconstNull X3.here hx rfl (hb hby d1_59) k) ?_
        show own_G p e below _ T3 (mkF m 60 #[.val (.ref a1), .val (.ref b1), .val (.int (1 : Int32)), .val (.int (1 : Int32)), .unset] [.null])
        refine own_go (fun t k => XS.astore X3.here hx rfl (hb hby d1_60) rfl rfl (l' := #[.val (.ref a1), .val (.ref b1), .val (.int (1 : Int32)), .val (.int (1 : Int32)), .val .null]) rfl k) ?_
        show own_G p e below _ T3 (mkF m 62 #[.val (.ref a1), .val (.ref b1), .val (.int (1 : Int32)), .val (.int (1 : Int32)), .val .null] [])
        refine own_go (fun t k => XS.goto X3.here hx rfl (pc0 := 62) (pc' := 90) rfl (hb hby d1_62) (by decide) (by decide) k) ?_
        show own_G p e below _ T3 (mkF m 90 #[.val (.ref a1), .val (.ref b1), .val (.int (1 : Int32)), .val (.int (1 : Int32)), .val .null] [])
        refine own_go (fun t k => XS.aload X3.here hx rfl (hb hby d1_90) rfl rfl k) ?_
        show own_G p e below _ T3 (mkF m 92 #[.val (.ref a1), .val (.ref b1), .val (.int (1 : Int32)), .val (.int (1 : Int32)), .val .null] [.null])
        exact own_retA X3 hx hlk hret rfl rfl (hb hby d1_92) (by decide) (by decide) ⟨congrArg some (Eq.symm (show (own_meet a_NOT_NULL a_UNKNOWN a_NULL a_NULLABLE a1 b1) = .null from (by unfold own_meet; rw [if_pos hc2, if_pos hc4, if_neg hc5]))), rfl, e3⟩
    ·
      refine own_go (fun t k => Jvm.Free.XT.acmpNo X3.here hx rfl (hb hby d1_24) rfl rfl rfl (own_acF hc4) k) ?_
      show own_G p e below _ T3 (mkF m 27 #[.val (.ref a1), .val (.ref b1), .val (.int (1 : Int32)), .unset, .unset] [])
      refine own_go (fun t k => XS.aloadN X3.here hx rfl (hb hby d1_27) rfl rfl k) ?_
      show own_G p e below _ T3 (mkF m 28 #[.val (.ref a1), .val (.ref b1), .val (.int (1 : Int32)), .unset, .unset] [(.ref b1)])
      obtain ⟨T6, X6, e6, st6⟩ := getS X3 hx hZ hown (host := "") (hw _ (List.mem_of_getElem? (i := 19) rfl)) Via.refl e3 S_NULL (g := (mkF m 28 #[.val (.ref a1), .val (.ref b1), .val (.int (1 : Int32)), .unset, .unset] [(.ref b1)])) rfl (hb hby d1_28)
      refine own_go st6 ?_
      show own_G p e below _ T6 (mkF m 31 #[.val (.ref a1), .val (.ref b1), .val (.int (1 : Int32)), .unset, .unset] [(.ref a_NULL), (.ref b1)])
      by_cases hc7 : b1 = a_NULL
      ·
        refine own_go (fun t k => Jvm.Free.XT.acmpNo X6.here hx rfl (hb hby d1_31) rfl rfl rfl (own_acnF hc7) k) ?_
        show own_G p e below _ T6 (mkF m 34 #[.val (.ref a1), .val (.ref b1), .val (.int (1 : Int32)), .unset, .unset] [])
        refine own_go (fun t k => XS.iconst X6.here hx rfl (hb hby d1_34) k) ?_
        show own_G p e below _ T6 (mkF m 35 #[.val (.ref a1), .val (.ref b1), .val (.int (1 : Int32)), .unset, .unset] [(.int (1 : Int32))])
        refine own_go (fun t k => XS.goto X6.here hx rfl (pc0 := 35) (pc' := 39) rfl (hb hby d1_35) (by decide) (by decide) k) ?_
        show own_G p e below _ T6 (mkF m 39 #[.val (.ref a1), .val (.ref b1), .val (.int (1 : Int32)), .unset, .unset] [(.int (1 : Int32))])
        refine own_go (fun t k => XS.istoreN X6.here hx rfl (hb hby d1_39) rfl (l' := #[.val (.ref a1), .val (.ref b1), .val (.int (1 : Int32)), .val (.int (1 : Int32)), .unset]) rfl k) ?_
        show own_G p e below _ T6 (mkF m 40 #[.val (.ref a1), .val (.ref b1), .val (.int (1 : Int32)), .val (.int (1 : Int32)), .unset] [])
        refine own_go (fun t k => XS.aloadN X6.here hx rfl (hb hby d1_40) rfl rfl k) ?_
        show own_G p e below _ T6 (mkF m 41 #[.val (.ref a1), .val (.ref b1), .val (.int (1 : Int32)), .val (.int (1 : Int32)), .unset] [(.ref a1)])
        refine own_go (fun t k => XS.aloadN X6.here hx rfl (hb hby d1_41) rfl rfl k) ?_
        show own_G p e below _ T6 (mkF m 42 #[.val (.ref a1), .val (.ref b1), .val (.int (1 : Int32)), .val (.int (1 : Int32)), .unset] [(.ref b1), (.ref a1)])
        by_cases hc8 : a1 = b1
        ·
          refine own_go (fun t k => Jvm.Free.XT.acmpNo X6.here hx rfl (hb hby d1_42) rfl rfl rfl (own_acnF hc8) k) ?_
          show own_G p e below _ T6 (mkF m 45 #[.val (.ref a1), .val (.ref b1), .val (.int (1 : Int32)), .val (.int (1 : Int32)), .unset] [])
          refine own_go (fun t k => XS.aloadN X6.here hx rfl (hb hby d1_45) rfl rfl k) ?_
          show own_G p e below _ T6 (mkF m 46 #[.val (.ref a1), .val (.ref b1), .val (.int (1 : Int32)), .val (.int (1 : Int32)), .unset] [(.ref a1)])
          refine own_go (fun t k => XS.astore X6.here hx rfl (hb hby d1_46) rfl rfl (l' := #[.val (.ref a1), .val (.ref b1), .val (.int (1 : Int32)), .val (.int (1 : Int32)), .val (.ref a1)]) rfl k) ?_
          show own_G p e below _ T6 (mkF m 48 #[.val (.ref a1), .val (.ref b1), .val (.int (1 : Int32)), .val (.int (1 : Int32)), .val (.ref a1)] [])
          refine own_go (fun t k => XS.goto X6.here hx rfl (pc0 := 48) (pc' := 90) rfl (hb hby d1_48) (by decide) (by decide) k) ?_
          show own_G p e below _ T6 (mkF m 90 #[.val (.ref a1), .val (.ref b1), .val (.int (1 : Int32)), .val (.int (1 : Int32)), .val (.ref a1)] [])
          refine own_go (fun t k => XS.aload X6.here hx rfl (hb hby d1_90) rfl rfl k) ?_
          show own_G p e below _ T6 (mkF m 92 #[.val (.ref a1), .val (.ref b1), .val (.int (1 : Int32)), .val (.int (1 : Int32)), .val (.ref a1)] [(.ref a1)])
          exact own_retA X6 hx hlk hret rfl rfl (hb hby d1_92) (by decide) (by decide) ⟨congrArg some (Eq.symm (show (own_meet a_NOT_NULL a_UNKNOWN a_NULL a_NULLABLE a1 b1) = (.ref a1) from (by unfold own_meet; rw [if_pos hc2, if_neg hc4, if_pos hc7, if_pos hc8]))), rfl, e6⟩
        ·
          refine own_go (fun t k => Jvm.Free.XT.acmpYes X6.here hx rfl (pc0 := 42) (pc' := 51) rfl (hb hby d1_42) rfl rfl rfl (own_acnT hc8) (by decide) (by decide) k) ?_
          show own_G p e below _ T6 (mkF m 51 #[.val (.ref a1), .val (.ref b1), .val (.int (1 : Int32)), .val (.int (1 : Int32)), .unset] [])
          refine own_go (fun t k => XS.iloadN X6.here hx rfl (hb hby d1_51) rfl k) ?_
          show own_G p e below _ T6 (mkF m 52 #[.val (.ref a1), .val (.ref b1), .val (.int (1 : Int32)), .val (.int (1 : Int32)), .unset] [(.int (1 : Int32))])
          refine own_go (fun t k => XS.ifNo X6.here hx rfl (hb hby d1_52) rfl (by decide) k) ?_
          show own_G p e below _ T6 (mkF m 55 #[.val (.ref a1), .val (.ref b1), .val (.int (1 : Int32)), .val (.int (1 : Int32)), .unset] [])
          refine own_go (fun t k => XS.iloadN X6.here hx rfl (hb hby d1_55) rfl k) ?_
          show own_G p e below _ T6 (mkF m 56 #[.val (.ref a1), .val (.ref b1), .val (.int (1 : Int32)), .val (.int (1 : Int32)), .unset] [(.int (1 : Int32))])
          refine own_go (fun t k => XS.ifNo X6.here hx rfl (hb hby d1_56) rfl (by decide) k) ?_
          show own_G p e below _ T6 (mkF m 59 #[.val (.ref a1), .val (.ref b1), .val (.int (1 : Int32)), .val (.int (1 : Int32)), .unset] [])
          refine own_go (fun t k => XS.aconstNull X6.here hx rfl (hb hby d1_59) k) ?_
          show own_G p e below _ T6 (mkF m 60 #[.val (.ref a1), .val (.ref b1), .val (.int (1 : Int32)), .val (.int (1 : Int32)), .unset] [.null])
          refine own_go (fun t k => XS.astore X6.here hx rfl (hb hby d1_60) rfl rfl (l' := #[.val (.ref a1), .val (.ref b1), .val (.int (1 : Int32)), .val (.int (1 : Int32)), .val .null]) rfl k) ?_
          show own_G p e below _ T6 (mkF m 62 #[.val (.ref a1), .val (.ref b1), .val (.int (1 : Int32)), .val (.int (1 : Int32)), .val .null] [])
          refine own_go (fun t k => XS.goto X6.here hx rfl (pc0 := 62) (pc' := 90) rfl (hb hby d1_62) (by decide) (by decide) k) ?_
          show own_G p e below _ T6 (mkF m 90 #[.val (.ref a1), .val (.ref b1), .val (.int (1 : Int32)), .val (.int (1 : Int32)), .val .null] [])
          refine own_go (fun t k => XS.aload X6.here hx rfl (hb hby d1_90) rfl rfl k) ?_
          show own_G p e below _ T6 (mkF m 92 #[.val (.ref a1), .val (.ref b1), .val (.int (1 : Int32)), .val (.int (1 : Int32)), .val .null] [.null])
          exact own_retA X6 hx hlk hret rfl rfl (hb hby d1_92) (by decide) (by decide) ⟨congrArg some (Eq.symm (show (own_meet a_NOT_NULL a_UNKNOWN a_NULL a_NULLABLE a1 b1) = .null from (by unfold own_meet; rw [if_pos hc2, if_neg hc4, if_pos hc7, if_neg hc8]))), rfl, e6⟩
      ·
        refine own_go (fun t k => Jvm.Free.XT.acmpYes X6.here hx rfl (pc0 := 31) (pc' := 38) rfl (hb hby d1_31) rfl rfl rfl (own_acnT hc7) (by decide) (by decide) k) ?_
        show own_G p e below _ T6 (mkF m 38 #[.val (.ref a1), .val (.ref b1), .val (.int (1 : Int32)), .unset, .unset] [])
        refine own_go (fun t k => XS.iconst X6.here hx rfl (hb hby d1_38) k) ?_
        show own_G p e below _ T6 (mkF m 39 #[.val (.ref a1), .val (.ref b1), .val (.int (1 : Int32)), .unset, .unset] [(.int (0 : Int32))])
        refine own_go (fun t k => XS.istoreN X6.here hx rfl (hb hby d1_39) rfl (l' := #[.val (.ref a1), .val (.ref b1), .val (.int (1 : Int32)), .val (.int (0 : Int32)), .unset]) rfl k) ?_
        show own_G p e below _ T6 (mkF m 40 #[.val (.ref a1), .val (.ref b1), .val (.int (1 : Int32)), .val (.int (0 : Int32)), .unset] [])
        refine own_go (fun t k => XS.aloadN X6.here hx rfl (hb hby d1_40) rfl rfl k) ?_
        show own_G p e below _ T6 (mkF m 41 #[.val (.ref a1), .val (.ref b1), .val (.int (1 : Int32)), .val (.int (0 : Int32)), .unset] [(.ref a1)])
        refine own_go (fun t k => XS.aloadN X6.here hx rfl (hb hby d1_41) rfl rfl k) ?_
        show own_G p e below _ T6 (mkF m 42 #[.val (.ref a1), .val (.ref b1), .val (.int (1 : Int32)), .val (.int (0 : Int32)), .unset] [(.ref b1), (.ref a1)])
        by_cases hc9 : a1 = b1
        ·
          refine own_go (fun t k => Jvm.Free.XT.acmpNo X6.here hx rfl (hb hby d1_42) rfl rfl rfl (own_acnF hc9) k) ?_
          show own_G p e below _ T6 (mkF m 45 #[.val (.ref a1), .val (.ref b1), .val (.int (1 : Int32)), .val (.int (0 : Int32)), .unset] [])
          refine own_go (fun t k => XS.aloadN X6.here hx rfl (hb hby d1_45) rfl rfl k) ?_
          show own_G p e below _ T6 (mkF m 46 #[.val (.ref a1), .val (.ref b1), .val (.int (1 : Int32)), .val (.int (0 : Int32)), .unset] [(.ref a1)])
          refine own_go (fun t k => XS.astore X6.here hx rfl (hb hby d1_46) rfl rfl (l' := #[.val (.ref a1), .val (.ref b1), .val (.int (1 : Int32)), .val (.int (0 : Int32)), .val (.ref a1)]) rfl k) ?_
          show own_G p e below _ T6 (mkF m 48 #[.val (.ref a1), .val (.ref b1), .val (.int (1 : Int32)), .val (.int (0 : Int32)), .val (.ref a1)] [])
          refine own_go (fun t k => XS.goto X6.here hx rfl (pc0 := 48) (pc' := 90) rfl (hb hby d1_48) (by decide) (by decide) k) ?_
          show own_G p e below _ T6 (mkF m 90 #[.val (.ref a1), .val (.ref b1), .val (.int (1 : Int32)), .val (.int (0 : Int32)), .val (.ref a1)] [])
          refine own_go (fun t k => XS.aload X6.here hx rfl (hb hby d1_90) rfl rfl k) ?_
          show own_G p e below _ T6 (mkF m 92 #[.val (.ref a1), .val (.ref b1), .val (.int (1 : Int32)), .val (.int (0 : Int32)), .val (.ref a1)] [(.ref a1)])
          exact own_retA X6 hx hlk hret rfl rfl (hb hby d1_92) (by decide) (by decide) ⟨congrArg some (Eq.symm (show (own_meet a_NOT_NULL a_UNKNOWN a_NULL a_NULLABLE a1 b1) = (.ref a1) from (by unfold own_meet; rw [if_pos hc2, if_neg hc4, if_neg hc7, if_pos hc9]))), rfl, e6⟩
        ·
          refine own_go (fun t k => Jvm.Free.XT.acmpYes X6.here hx rfl (pc0 := 42) (pc' := 51) rfl (hb hby d1_42) rfl rfl rfl (own_acnT hc9) (by decide) (by decide) k) ?_
          show own_G p e below _ T6 (mkF m 51 #[.val (.ref a1), .val (.ref b1), .val (.int (1 : Int32)), .val (.int (0 : Int32)), .unset] [])
          refine own_go (fun t k => XS.iloadN X6.here hx rfl (hb hby d1_51) rfl k) ?_
          show own_G p e below _ T6 (mkF m 52 #[.val (.ref a1), .val (.ref b1), .val (.int (1 : Int32)), .val (.int (0 : Int32)), .unset] [(.int (1 : Int32))])
          refine own_go (fun t k => XS.ifNo X6.here hx rfl (hb hby d1_52) rfl (by decide) k) ?_
          show own_G p e below _ T6 (mkF m 55 #[.val (.ref a1), .val (.ref b1), .val (.int (1 : Int32)), .val (.int (0 : Int32)), .unset] [])
          refine own_go (fun t k => XS.iloadN X6.here hx rfl (hb hby d1_55) rfl k) ?_
          show own_G p e below _ T6 (mkF m 56 #[.val (.ref a1), .val (.ref b1), .val (.int (1 : Int32)), .val (.int (0 : Int32)), .unset] [(.int (0 : Int32))])
          refine own_go (fun t k => XS.ifYes X6.here hx rfl (pc0 := 56) (pc' := 65) rfl (hb hby d1_56) rfl (by decide) (by decide) (by decide) k) ?_
          show own_G p e below _ T6 (mkF m 65 #[.val (.ref a1), .val (.ref b1), .val (.int (1 : Int32)), .val (.int (0 : Int32)), .unset] [])
          refine own_go (fun t k => XS.iloadN X6.here hx rfl (hb hby d1_65) rfl k) ?_
          show own_G p e below _ T6 (mkF m 66 #[.val (.ref a1), .val (.ref b1), .val (.int (1 : Int32)), .val (.int (0 : Int32)), .unset] [(.int (1 : Int32))])
          refine own_go (fun t k => XS.ifNo X6.here hx rfl (hb hby d1_66) rfl (by decide) k) ?_
          show own_G p e below _ T6 (mkF m 69 #[.val (.ref a1), .val (.ref b1), .val (.int (1 : Int32)), .val (.int (0 : Int32)), .unset] [])
          refine own_go (fun t k => XS.aloadN X6.here hx rfl (hb hby d1_69) rfl rfl k) ?_
          show own_G p e below _ T6 (mkF m 70 #[.val (.ref a1), .val (.ref b1), .val (.int (1 : Int32)), .val (.int (0 : Int32)), .unset] [(.ref a1)])
          refine own_go (fun t k => XS.astore X6.here hx rfl (hb hby d1_70) rfl rfl (l' := #[.val (.ref a1), .val (.ref b1), .val (.int (1 : Int32)), .val (.int (0 : Int32)), .val (.ref a1)]) rfl k) ?_
          show own_G p e below _ T6 (mkF m 72 #[.val (.ref a1), .val (.ref b1), .val (.int (1 : Int32)), .val (.int (0 : Int32)), .val (.ref a1)] [])
          refine own_go (fun t k => XS.goto X6.here hx rfl (pc0 := 72) (pc' := 90) rfl (hb hby d1_72) (by decide) (by decide) k) ?_
          show own_G p e below _ T6 (mkF m 90 #[.val (.ref a1), .val (.ref b1), .val (.int (1 : Int32)), .val (.int (0 : Int32)), .val (.ref a1)] [])
          refine own_go (fun t k => XS.aload X6.here hx rfl (hb hby d1_90) rfl rfl k) ?_
          show own_G p e below _ T6 (mkF m 92 #[.val (.ref a1), .val (.ref b1), .val (.int (1 : Int32)), .val (.int (0 : Int32)), .val (.ref a1)] [(.ref a1)])
          exact own_retA X6 hx hlk hret rfl rfl (hb hby d1_92) (by decide) (by decide) ⟨congrArg some (Eq.symm (show (own_meet a_NOT_NULL a_UNKNOWN a_NULL a_NULLABLE a1 b1) = (.ref a1) from (by unfold own_meet; rw [if_pos hc2, if_neg hc4, if_neg hc7, if_neg hc9]))), rfl, e6⟩
  ·
    refine own_go (fun t k => Jvm.Free.XT.acmpNo X1.here hx rfl (hb hby d1_4) rfl rfl rfl (own_acF hc2) k) ?_
    show own_G p e below _ T1 (mkF m 7 #[.val (.ref a1), .val (.ref b1), .unset, .unset, .unset] [])
    refine own_go (fun t k => XS.aloadN X1.here hx rfl (hb hby d1_7) rfl rfl k) ?_
    show own_G p e below _ T1 (mkF m 8 #[.val (.ref a1), .val (.ref b1), .unset, .unset, .unset] [(.ref a1)])
    obtain ⟨T10, X10, e10, st10⟩ := getS X1 hx hZ hown (host := "") (hw _ (List.mem_of_getElem? (i := 19) rfl)) Via.refl e1 S_NULL (g := (mkF m 8 #[.val (.ref a1), .val (.ref b1), .unset, .unset, .unset] [(.ref a1)])) rfl (hb hby d1_8)
    refine own_go st10 ?_
    show own_G p e below _ T10 (mkF m 11 #[.val (.ref a1), .val (.ref b1), .unset, .unset, .unset] [(.ref a_NULL), (.ref a1)])
    by_cases hc11 : a1 = a_NULL
    ·
      refine own_go (fun t k => Jvm.Free.XT.acmpNo X10.here hx rfl (hb hby d1_11) rfl rfl rfl (own_acnF hc11) k) ?_
      show own_G p e below _ T10 (mkF m 14 #[.val (.ref a1), .val (.ref b1), .unset, .unset, .unset] [])
      refine own_go (fun t k => XS.iconst X10.here hx rfl (hb hby d1_14) k) ?_
      show own_G p e below _ T10 (mkF m 15 #[.val (.ref a1), .val (.ref b1), .unset, .unset, .unset] [(.int (1 : Int32))])
      refine own_go (fun t k => XS.goto X10.here hx rfl (pc0 := 15) (pc' := 19) rfl (hb hby d1_15) (by decide) (by decide) k) ?_
      show own_G p e below _ T10 (mkF m 19 #[.val (.ref a1), .val (.ref b1), .unset, .unset, .unset] [(.int (1 : Int32))])
      refine own_go (fun t k => XS.istoreN X10.here hx rfl (hb hby d1_19) rfl (l' := #[.val (.ref a1), .val (.ref b1), .val (.int (1 : Int32)), .unset, .unset]) rfl k) ?_
      show own_G p e below _ T10 (mkF m 20 #[.val (.ref a1), .val (.ref b1), .val (.int (1 : Int32)), .unset, .unset] [])
      refine own_go (fun t k => XS.aloadN X10.here hx rfl (hb hby d1_20) rfl rfl k) ?_
      show own_G p e below _ T10 (mkF m 21 #[.val (.ref a1), .val (.ref b1), .val (.int (1 : Int32)), .unset, .unset] [(.ref b1)])
      obtain ⟨T12, X12, e12, st12⟩ := getS X10 hx hZ hown (host := "") (hw _ (List.mem_of_getElem? (i := 18) rfl)) Via.refl e10 S_NOT_NULL (g := (mkF m 21 #[.val (.ref a1), .val (.ref b1), .val (.int (1 : Int32)), .unset, .unset] [(.ref b1)])) rfl (hb hby d1_21)
      refine own_go st12 ?_
      show own_G p e below _ T12 (mkF m 24 #[.val (.ref a1), .val (.ref b1), .val (.int (1 : Int32)), .unset, .unset] [(.ref a_NOT_NULL), (.ref b1)])
      by_cases hc13 : b1 = a_NOT_NULL
      ·
        refine own_go (fun t k => Jvm.Free.XT.acmpYes X12.here hx rfl (pc0 := 24) (pc' := 34) rfl (hb hby d1_24) rfl rfl rfl (own_acT hc13) (by decide) (by decide) k) ?_
        show own_G p e below _ T12 (mkF m 34 #[.val (.ref a1), .val (.ref b1), .val (.int (1 : Int32)), .unset, .unset] [])
        refine own_go (fun t k => XS.iconst X12.here hx rfl (hb hby d1_34) k) ?_
        show own_G p e below _ T12 (mkF m 35 #[.val (.ref a1), .val (.ref b1), .val (.int (1 : Int32)), .unset, .unset] [(.int (1 : Int32))])
        refine own_go (fun t k => XS.goto X12.here hx rfl (pc0 := 35) (pc' := 39) rfl (hb hby d1_35) (by decide) (by decide) k) ?_
        show own_G p e below _ T12 (mkF m 39 #[.val (.ref a1), .val (.ref b1), .val (.int (1 : Int32)), .unset, .unset] [(.int (1 : Int32))])
        refine own_go (fun t k => XS.istoreN X12.here hx rfl (hb hby d1_39) rfl (l' := #[.val (.ref a1), .val (.ref b1), .val (.int (1 : Int32)), .val (.int (1 : Int32)), .unset]) rfl k) ?_
        show own_G p e below _ T12 (mkF m 40 #[.val (.ref a1), .val (.ref b1), .val (.int (1 : Int32)), .val (.int (1 : Int32)), .unset] [])
        refine own_go (fun t k => XS.aloadN X12.here hx rfl (hb hby d1_40) rfl rfl k) ?_
        show own_G p e below _ T12 (mkF m 41 #[.val (.ref a1), .val (.ref b1), .val (.int (1 : Int32)), .val (.int (1 : Int32)), .unset] [(.ref a1)])
        refine own_go (fun t k => XS.aloadN X12.here hx rfl (hb hby d1_41) rfl rfl k) ?_
        show own_G p e below _ T12 (mkF m 42 #[.val (.ref a1), .val (.ref b1), .val (.int (1 : Int32)), .val (.int (1 : Int32)), .unset] [(.ref b1), (.ref a1)])
        by_cases hc14 : a1 = b1
        ·
          refine own_go (fun t k => Jvm.Free.XT.acmpNo X12.here hx rfl (hb hby d1_42) rfl rfl rfl (own_acnF hc14) k) ?_
          show own_G p e below _ T12 (mkF m 45 #[.val (.ref a1), .val (.ref b1), .val (.int (1 : Int32)), .val (.int (1 : Int32)), .unset] [])
          refine own_go (fun t k => XS.aloadN X12.here hx rfl (hb hby d1_45) rfl rfl k) ?_
          show own_G p e below _ T12 (mkF m 46 #[.val (.ref a1), .val (.ref b1), .val (.int (1 : Int32)), .val (.int (1 : Int32)), .unset] [(.ref a1)])
          refine own_go (fun t k => XS.astore X12.here hx rfl (hb hby d1_46) rfl rfl (l' := #[.val (.ref a1), .val (.ref b1), .val (.int (1 : Int32)), .val (.int (1 : Int32)), .val (.ref a1)]) rfl k) ?_
          show own_G p e below _ T12 (mkF m 48 #[.val (.ref a1), .val (.ref b1), .val (.int (1 : Int32)), .val (.int (1 : Int32)), .val (.ref a1)] [])
          refine own_go (fun t k => XS.goto X12.here hx rfl (pc0 := 48) (pc' := 90) rfl (hb hby d1_48) (by decide) (by decide) k) ?_
          show own_G p e below _ T12 (mkF m 90 #[.val (.ref a1), .val (.ref b1), .val (.int (1 : Int32)), .val (.int (1 : Int32)), .val (.ref a1)] [])
          refine own_go (fun t k => XS.aload X12.here hx rfl (hb hby d1_90) rfl rfl k) ?_
          show own_G p e below _ T12 (mkF m 92 #[.val (.ref a1), .val (.ref b1), .val (.int (1 : Int32)), .val (.int (1 : Int32)), .val (.ref a1)] [(.ref a1)])
          exact own_retA X12 hx hlk hret rfl rfl (hb hby d1_92) (by decide) (by decide) ⟨congrArg some (Eq.symm (show (own_meet a_NOT_NULL a_UNKNOWN a_NULL a_NULLABLE a1 b1) = (.ref a1) from (by unfold own_meet; rw [if_neg hc2, if_pos hc11, if_pos hc13, if_pos hc14]))), rfl, e12⟩
        ·
          refine own_go (fun t k => Jvm.Free.XT.acmpYes X12.here hx rfl (pc0 := 42) (pc' := 51) rfl (hb hby d1_42) rfl rfl rfl (own_acnT hc14) (by decide) (by decide) k) ?_
          show own_G p e below _ T12 (mkF m 51 #[.val (.ref a1), .val (.ref b1), .val (.int (1 : Int32)), .val (.int (1 : Int32)), .unset] [])
          refine own_go (fun t k => XS.iloadN X12.here hx rfl (hb hby d1_51) rfl k) ?_
          show own_G p e below _ T12 (mkF m 52 #[.val (.ref a1), .val (.ref b1), .val (.int (1 : Int32)), .val (.int (1 : Int32)), .unset] [(.int (1 : Int32))])
          refine own_go (fun t k => XS.ifNo X12.here hx rfl (hb hby d1_52) rfl (by decide) k) ?_
          show own_G p e below _ T12 (mkF m 55 #[.val (.ref a1), .val (.ref b1), .val (.int (1 : Int32)), .val (.int (1 : Int32)), .unset] [])
          refine own_go (fun t k => XS.iloadN X12.here hx rfl (hb hby d1_55) rfl k) ?_
          show own_G p e below _ T12 (mkF m 56 #[.val (.ref a1), .val (.ref b1), .val (.int (1 : Int32)), .val (.int (1 : Int32)), .unset] [(.int (1 : Int32))])
          refine own_go (fun t k => XS.ifNo X12.here hx rfl (hb hby d1_56) rfl (by decide) k) ?_
          show own_G p e below _ T12 (mkF m 59 #[.val (.ref a1), .val (.ref b1), .val (.int (1 : Int32)), .val (.int (1 : Int32)), .unset] [])
          refine own_go (fun t k => XS.aconstNull X12.here hx rfl (hb hby d1_59) k) ?_
          show own_G p e below _ T12 (mkF m 60 #[.val (.ref a1), .val (.ref b1), .val (.int (1 : Int32)), .val (.int (1 : Int32)), .unset] [.null])
          refine own_go (fun t k => XS.astore X12.here hx rfl (hb hby d1_60) rfl rfl (l' := #[.val (.ref a1), .val (.ref b1), .val (.int (1 : Int32)), .val (.int (1 : Int32)), .val .null]) rfl k) ?_
          show own_G p e below _ T12 (mkF m 62 #[.val (.ref a1), .val (.ref b1), .val (.int (1 : Int32)), .val (.int (1 : Int32)), .val .null] [])
          refine own_go (fun t k => XS.goto X12.here hx rfl (pc0 := 62) (pc' := 90) rfl (hb hby d1_62) (by decide) (by decide) k) ?_
          show own_G p e below _ T12 (mkF m 90 #[.val (.ref a1), .val (.ref b1), .val (.int (1 : Int32)), .val (.int (1 : Int32)), .val .null] [])
          refine own_go (fun t k => XS.aload X12.here hx rfl (hb hby d1_90) rfl rfl k) ?_
          show own_G p e below _ T12 (mkF m 92 #[.val (.ref a1), .val (.ref b1), .val (.int (1 : Int32)), .val (.int (1 : Int32)), .val .null] [.null])
          exact own_retA X12 hx hlk hret rfl rfl (hb hby d1_92) (by decide) (by decide) ⟨congrArg some (Eq.symm (show (own_meet a_NOT_NULL a_UNKNOWN a_NULL a_NULLABLE a1 b1) = .null from (by unfold own_meet; rw [if_neg hc2, if_pos hc11, if_pos hc13, if_neg hc14]))), rfl, e12⟩
      ·
        refine own_go (fun t k => Jvm.Free.XT.acmpNo X12.here hx rfl (hb hby d1_24) rfl rfl rfl (own_acF hc13) k) ?_
        show own_G p e below _ T12 (mkF m 27 #[.val (.ref a1), .val (.ref b1), .val (.int (1 : Int32)), .unset, .unset] [])
        refine own_go (fun t k => XS.aloadN X12.here hx rfl (hb hby d1_27) rfl rfl k) ?_
        show own_G p e below _ T12 (mkF m 28 #[.val (.ref a1), .val (.ref b1), .val (.int (1 : Int32)), .unset, .unset] [(.ref b1)])
        obtain ⟨T15, X15, e15, st15⟩ := getS X12 hx hZ hown (host := "") (hw _ (List.mem_of_getElem? (i := 19) rfl)) Via.refl e12 S_NULL (g := (mkF m 28 #[.val (.ref a1), .val (.ref b1), .val (.int (1 : Int32)), .unset, .unset] [(.ref b1)])) rfl (hb hby d1_28)
        refine own_go st15 ?_
        show own_G p e below _ T15 (mkF m 31 #[.val (.ref a1), .val (.ref b1), .val (.int (1 : Int32)), .unset, .unset] [(.ref a_NULL), (.ref b1)])
        by_cases hc16 : b1 = a_NULL
        ·
          refine own_go (fun t k => Jvm.Free.XT.acmpNo X15.here hx rfl (hb hby d1_31) rfl rfl rfl (own_acnF hc16) k) ?_
          show own_G p e below _ T15 (mkF m 34 #[.val (.ref a1), .val (.ref b1), .val (.int (1 : Int32)), .unset, .unset] [])
          refine own_go (fun t k => XS.iconst X15.here hx rfl (hb hby d1_34) k) ?_
          show own_G p e below _ T15 (mkF m 35 #[.val (.ref a1), .val (.ref b1), .val (.int (1 : Int32)), .unset, .unset] [(.int (1 : Int32))])
          refine own_go (fun t k => XS.goto X15.here hx rfl (pc0 := 35) (pc' := 39) rfl (hb hby d1_35) (by decide) (by decide) k) ?_
          show own_G p e below _ T15 (mkF m 39 #[.val (.ref a1), .val (.ref b1), .val (.int (1 : Int32)), .unset, .unset] [(.int (1 : Int32))])
          refine own_go (fun t k => XS.istoreN X15.here hx rfl (hb hby d1_39) rfl (l' := #[.val (.ref a1), .val (.ref b1), .val (.int (1 : Int32)), .val (.int (1 : Int32)), .unset]) rfl k) ?_
          show own_G p e below _ T15 (mkF m 40 #[.val (.ref a1), .val (.ref b1), .val (.int (1 : Int32)), .val (.int (1 : Int32)), .unset] [])
          refine own_go (fun t k => XS.aloadN X15.here hx rfl (hb hby d1_40) rfl rfl k) ?_
          show own_G p e below _ T15 (mkF m 41 #[.val (.ref a1), .val (.ref b1), .val (.int (1 : Int32)), .val (.int (1 : Int32)), .unset] [(.ref a1)])
          refine own_go (fun t k => XS.aloadN X15.here hx rfl (hb hby d1_41) rfl rfl k) ?_
          show own_G p e below _ T15 (mkF m 42 #[.val (.ref a1), .val (.ref b1), .val (.int (1 : Int32)), .val (.int (1 : Int32)), .unset] [(.ref b1), (.ref a1)])
          by_cases hc17 : a1 = b1
          ·
            refine own_go (fun t k => Jvm.Free.XT.acmpNo X15.here hx rfl (hb hby d1_42) rfl rfl rfl (own_acnF hc17) k) ?_
            show own_G p e below _ T15 (mkF m 45 #[.val (.ref a1), .val (.ref b1), .val (.int (1 : Int32)), .val (.int (1 : Int32)), .unset] [])
            refine own_go (fun t k => XS.aloadN X15.here hx rfl (hb hby d1_45) rfl rfl k) ?_
            show own_G p e below _ T15 (mkF m 46 #[.val (.ref a1), .val (.ref b1), .val (.int (1 : Int32)), .val (.int (1 : Int32)), .unset] [(.ref a1)])
            refine own_go (fun t k => XS.astore X15.here hx rfl (hb hby d1_46) rfl rfl (l' := #[.val (.ref a1), .val (.ref b1), .val (.int (1 : Int32)), .val (.int (1 : Int32)), .val (.ref a1)]) rfl k) ?_
            show own_G p e below _ T15 (mkF m 48 #[.val (.ref a1), .val (.ref b1), .val (.int (1 : Int32)), .val (.int (1 : Int32)), .val (.ref a1)] [])
            refine own_go (fun t k => XS.goto X15.here hx rfl (pc0 := 48) (pc' := 90) rfl (hb hby d1_48) (by decide) (by decide) k) ?_
            show own_G p e below _ T15 (mkF m 90 #[.val (.ref a1), .val (.ref b1), .val (.int (1 : Int32)), .val (.int (1 : Int32)), .val (.ref a1)] [])
            refine own_go (fun t k => XS.aload X15.here hx rfl (hb hby d1_90) rfl rfl k) ?_
            show own_G p e below _ T15 (mkF m 92 #[.val (.ref a1), .val (.ref b1), .val (.int (1 : Int32)), .val (.int (1 : Int32)), .val (.ref a1)] [(.ref a1)])
            exact own_retA X15 hx hlk hret rfl rfl (hb hby d1_92) (by decide) (by decide) ⟨congrArg some (Eq.symm (show (own_meet a_NOT_NULL a_UNKNOWN a_NULL a_NULLABLE a1 b1) = (.ref a1) from (by unfold own_meet; rw [if_neg hc2, if_pos hc11, if_neg hc13, if_pos hc16, if_pos hc17]))), rfl, e15⟩
          ·
            refine own_go (fun t k => Jvm.Free.XT.acmpYes X15.here hx rfl (pc0 := 42) (pc' := 51) rfl (hb hby d1_42) rfl rfl rfl (own_acnT hc17) (by decide) (by decide) k) ?_
            show own_G p e below _ T15 (mkF m 51 #[.val (.ref a1), .val (.ref b1), .val (.int (1 : Int32)), .val (.int (1 : Int32)), .unset] [])
            refine own_go (fun t k => XS.iloadN X15.here hx rfl (hb hby d1_51) rfl k) ?_
            show own_G p e below _ T15 (mkF m 52 #[.val (.ref a1), .val (.ref b1), .val (.int (1 : Int32)), .val (.int (1 : Int32)), .unset] [(.int (1 : Int32))])
            refine own_go (fun t k => XS.ifNo X15.here hx rfl (hb hby d1_52) rfl (by decide) k) ?_
            show own_G p e below _ T15 (mkF m 55 #[.val (.ref a1), .val (.ref b1), .val (.int (1 : Int32)), .val (.int (1 : Int32)), .unset] [])
            refine own_go (fun t k => XS.iloadN X15.here hx rfl (hb hby d1_55) rfl k) ?_
            show own_G p e below _ T15 (mkF m 56 #[.val (.ref a1), .val (.ref b1), .val (.int (1 : Int32)), .val (.int (1 : Int32)), .unset] [(.int (1 : Int32))])
            refine own_go (fun t k => XS.ifNo X15.here hx rfl (hb hby d1_56) rfl (by decide) k) ?_
            show own_G p e below _ T15 (mkF m 59 #[.val (.ref a1), .val (.ref b1), .val (.int (1 : Int32)), .val (.int (1 : Int32)), .unset] [])
            refine own_go (fun t k => XS.aconstNull X15.here hx rfl (hb hby d1_59) k) ?_
            show own_G p e below _ T15 (mkF m 60 #[.val (.ref a1), .val (.ref b1), .val (.int (1 : Int32)), .val (.int (1 : Int32)), .unset] [.null])
            refine own_go (fun t k => XS.astore X15.here hx rfl (hb hby d1_60) rfl rfl (l' := #[.val (.ref a1), .val (.ref b1), .val (.int (1 : Int32)), .val (.int (1 : Int32)), .val .null]) rfl k) ?_
            show own_G p e below _ T15 (mkF m 62 #[.val (.ref a1), .val (.ref b1), .val (.int (1 : Int32)), .val (.int (1 : Int32)), .val .null] [])
            refine own_go (fun t k => XS.goto X15.here hx rfl (pc0 := 62) (pc' := 90) rfl (hb hby d1_62) (by decide) (by decide) k) ?_
            show own_G p e below _ T15 (mkF m 90 #[.val (.ref a1), .val (.ref b1), .val (.int (1 : Int32)), .val (.int (1 : Int32)), .val .null] [])
            refine own_go (fun t k => XS.aload X15.here hx rfl (hb hby d1_90) rfl rfl k) ?_
            show own_G p e below _ T15 (mkF m 92 #[.val (.ref a1), .val (.ref b1), .val (.int (1 : Int32)), .val (.int (1 : Int32)), .val .null] [.null])
            exact own_retA X15 hx hlk hret rfl rfl (hb hby d1_92) (by decide) (by decide) ⟨congrArg some (Eq.symm (show (own_meet a_NOT_NULL a_UNKNOWN a_NULL a_NULLABLE a1 b1) = .null from (by unfold own_meet; rw [if_neg hc2, if_pos hc11, if_neg hc13, if_pos hc16, if_neg hc17]))), rfl, e15⟩
        ·
          refine own_go (fun t k => Jvm.Free.XT.acmpYes X15.here hx rfl (pc0 := 31) (pc' := 38) rfl (hb hby d1_31) rfl rfl rfl (own_acnT hc16) (by decide) (by decide) k) ?_
          show own_G p e below _ T15 (mkF m 38 #[.val (.ref a1), .val (.ref b1), .val (.int (1 : Int32)), .unset, .unset] [])
          refine own_go (fun t k => XS.iconst X15.here hx rfl (hb hby d1_38) k) ?_
          show own_G p e below _ T15 (mkF m 39 #[.val (.ref a1), .val (.ref b1), .val (.int (1 : Int32)), .unset, .unset] [(.int (0 : Int32))])
          refine own_go (fun t k => XS.istoreN X15.here hx rfl (hb hby d1_39) rfl (l' := #[.val (.ref a1), .val (.ref b1), .val (.int (1 : Int32)), .val (.int (0 : Int32)), .unset]) rfl k) ?_
          show own_G p e below _ T15 (mkF m 40 #[.val (.ref a1), .val (.ref b1), .val (.int (1 : Int32)), .val (.int (0 : Int32)), .unset] [])
          refine own_go (fun t k => XS.aloadN X15.here hx rfl (hb hby d1_40) rfl rfl k) ?_
          show own_G p e below _ T15 (mkF m 41 #[.val (.ref a1), .val (.ref b1), .val (.int (1 : Int32)), .val (.int (0 : Int32)), .unset] [(.ref a1)])
          refine own_go (fun t k => XS.aloadN X15.here hx rfl (hb hby d1_41) rfl rfl k) ?_
          show own_G p e below _ T15 (mkF m 42 #[.val (.ref a1), .val (.ref b1), .val (.int (1 : Int32)), .val (.int (0 : Int32)), .unset] [(.ref b1), (.ref a1)])
          by_cases hc18 : a1 = b1
          ·
            refine own_go (fun t k => Jvm.Free.XT.acmpNo X15.here hx rfl (hb hby d1_42) rfl rfl rfl (own_acnF hc18) k) ?_
            show own_G p e below _ T15 (mkF m 45 #[.val (.ref a1), .val (.ref b1), .val (.int (1 : Int32)), .val (.int (0 : Int32)), .unset] [])
            refine own_go (fun t k => XS.aloadN X15.here hx rfl (hb hby d1_45) rfl rfl k) ?_
            show own_G p e below _ T15 (mkF m 46 #[.val (.ref a1), .val (.ref b1), .val (.int (1 : Int32)), .val (.int (0 : Int32)), .unset] [(.ref a1)])
            refine own_go (fun t k => XS.astore X15.here hx rfl (hb hby d1_46) rfl rfl (l' := #[.val (.ref a1), .val (.ref b1), .val (.int (1 : Int32)), .val (.int (0 : Int32)), .val (.ref a1)]) rfl k) ?_
            show own_G p e below _ T15 (mkF m 48 #[.val (.ref a1), .val (.ref b1), .val (.int (1 : Int32)), .val (.int (0 : Int32)), .val (.ref a1)] [])
            refine own_go (fun t k => XS.goto X15.here hx rfl (pc0 := 48) (pc' := 90) rfl (hb hby d1_48) (by decide) (by decide) k) ?_
            show own_G p e below _ T15 (mkF m 90 #[.val (.ref a1), .val (.ref b1), .val (.int (1 : Int32)), .val (.int (0 : Int32)), .val (.ref a1)] [])
            refine own_go (fun t k => XS.aload X15.here hx rfl (hb hby d1_90) rfl rfl k) ?_
            show own_G p e below _ T15 (mkF m 92 #[.val (.ref a1), .val (.ref b1), .val (.int (1 : Int32)), .val (.int (0 : Int32)), .val (.ref a1)] [(.ref a1)])
            exact own_retA X15 hx hlk hret rfl rfl (hb hby d1_92) (by decide) (by decide) ⟨congrArg some (Eq.symm (show (own_meet a_NOT_NULL a_UNKNOWN a_NULL a_NULLABLE a1 b1) = (.ref a1) from (by unfold own_meet; rw [if_neg hc2, if_pos hc11, if_neg hc13, if_neg hc16, if_pos hc18]))), rfl, e15⟩
          ·
            refine own_go (fun t k => Jvm.Free.XT.acmpYes X15.here hx rfl (pc0 := 42) (pc' := 51) rfl (hb hby d1_42) rfl rfl rfl (own_acnT hc18) (by decide) (by decide) k) ?_
            show own_G p e below _ T15 (mkF m 51 #[.val (.ref a1), .val (.ref b1), .val (.int (1 : Int32)), .val (.int (0 : Int32)), .unset] [])
            refine own_go (fun t k => XS.iloadN X15.here hx rfl (hb hby d1_51) rfl k) ?_
            show own_G p e below _ T15 (mkF m 52 #[.val (.ref a1), .val (.ref b1), .val (.int (1 : Int32)), .val (.int (0 : Int32)), .unset] [(.int (1 : Int32))])
            refine own_go (fun t k => XS.ifNo X15.here hx rfl (hb hby d1_52) rfl (by decide) k) ?_
            show own_G p e below _ T15 (mkF m 55 #[.val (.ref a1), .val (.ref b1), .val (.int (1 : Int32)), .val (.int (0 : Int32)), .unset] [])
            refine own_go (fun t k => XS.iloadN X15.here hx rfl (hb hby d1_55) rfl k) ?_
            show own_G p e below _ T15 (mkF m 56 #[.val (.ref a1), .val (.ref b1), .val (.int (1 : Int32)), .val (.int (0 : Int32)), .unset] [(.int (0 : Int32))])
            refine own_go (fun t k => XS.ifYes X15.here hx rfl (pc0 := 56) (pc' := 65) rfl (hb hby d1_56) rfl (by decide) (by decide) (by decide) k) ?_
            show own_G p e below _ T15 (mkF m 65 #[.val (.ref a1), .val (.ref b1), .val (.int (1 : Int32)), .val (.int (0 : Int32)), .unset] [])
            refine own_go (fun t k => XS.iloadN X15.here hx rfl (hb hby d1_65) rfl k) ?_
            show own_G p e below _ T15 (mkF m 66 #[.val (.ref a1), .val (.ref b1), .val (.int (1 : Int32)), .val (.int (0 : Int32)), .unset] [(.int (1 : Int32))])
            refine own_go (fun t k => XS.ifNo X15.here hx rfl (hb hby d1_66) rfl (by decide) k) ?_
            show own_G p e below _ T15 (mkF m 69 #[.val (.ref a1), .val (.ref b1), .val (.int (1 : Int32)), .val (.int (0 : Int32)), .unset] [])
            refine own_go (fun t k => XS.aloadN X15.here hx rfl (hb hby d1_69) rfl rfl k) ?_
            show own_G p e below _ T15 (mkF m 70 #[.val (.ref a1), .val (.ref b1), .val (.int (1 : Int32)), .val (.int (0 : Int32)), .unset] [(.ref a1)])
            refine own_go (fun t k => XS.astore X15.here hx rfl (hb hby d1_70) rfl rfl (l' := #[.val (.ref a1), .val (.ref b1), .val (.int (1 : Int32)), .val (.int (0 : Int32)), .val (.ref a1)]) rfl k) ?_
            show own_G p e below _ T15 (mkF m 72 #[.val (.ref a1), .val (.ref b1), .val (.int (1 : Int32)), .val (.int (0 : Int32)), .val (.ref a1)] [])
            refine own_go (fun t k => XS.goto X15.here hx rfl (pc0 := 72) (pc' := 90) rfl (hb hby d1_72) (by decide) (by decide) k) ?_
            show own_G p e below _ T15 (mkF m 90 #[.val (.ref a1), .val (.ref b1), .val (.int (1 : Int32)), .val (.int (0 : Int32)), .val (.ref a1)] [])
            refine own_go (fun t k => XS.aload X15.here hx rfl (hb hby d1_90) rfl rfl k) ?_
            show own_G p e below _ T15 (mkF m 92 #[.val (.ref a1), .val (.ref b1), .val (.int (1 : Int32)), .val (.int (0 : Int32)), .val (.ref a1)] [(.ref a1)])
            exact own_retA X15 hx hlk hret rfl rfl (hb hby d1_92) (by decide) (by decide) ⟨congrArg some (Eq.symm (show (own_meet a_NOT_NULL a_UNKNOWN a_NULL a_NULLABLE a1 b1) = (.ref a1) from (by unfold own_meet; rw [if_neg hc2, if_pos hc11, if_neg hc13, if_neg hc16, if_neg hc18]))), rfl, e15⟩
    ·
      refine own_go (fun t k => Jvm.Free.XT.acmpYes X10.here hx rfl (pc0 := 11) (pc' := 18) rfl (hb hby d1_11) rfl rfl rfl (own_acnT hc11) (by decide) (by decide) k) ?_
      show own_G p e below _ T10 (mkF m 18 #[.val (.ref a1), .val (.ref b1), .unset, .unset, .unset] [])
      refine own_go (fun t k => XS.iconst X10.here hx rfl (hb hby d1_18) k) ?_
      show own_G p e below _ T10 (mkF m 19 #[.val (.ref a1), .val (.ref b1), .unset, .unset, .unset] [(.int (0 : Int32))])
      refine own_go (fun t k => XS.istoreN X10.here hx rfl (hb hby d1_19) rfl (l' := #[.val (.ref a1), .val (.ref b1), .val (.int (0 : Int32)), .unset, .unset]) rfl k) ?_
      show own_G p e below _ T10 (mkF m 20 #[.val (.ref a1), .val (.ref b1), .val (.int (0 : Int32)), .unset, .unset] [])
      refine own_go (fun t k => XS.aloadN X10.here hx rfl (hb hby d1_20) rfl rfl k) ?_
      show own_G p e below _ T10 (mkF m 21 #[.val (.ref a1), .val (.ref b1), .val (.int (0 : Int32)), .unset, .unset] [(.ref b1)])
      obtain ⟨T19, X19, e19, st19⟩ := getS X10 hx hZ hown (host := "") (hw _ (List.mem_of_getElem? (i := 18) rfl)) Via.refl e10 S_NOT_NULL (g := (mkF m 21 #[.val (.ref a1), .val (.ref b1), .val (.int (0 : Int32)), .unset, .unset] [(.ref b1)])) rfl (hb hby d1_21)
      refine own_go st19 ?_
      show own_G p e below _ T19 (mkF m 24 #[.val (.ref a1), .val (.ref b1), .val (.int (0 : Int32)), .unset, .unset] [(.ref a_NOT_NULL), (.ref b1)])
      by_cases hc20 : b1 = a_NOT_NULL
      ·
        refine own_go (fun t k => Jvm.Free.XT.acmpYes X19.here hx rfl (pc0 := 24) (pc' := 34) rfl (hb hby d1_24) rfl rfl rfl (own_acT hc20) (by decide) (by decide) k) ?_
        show own_G p e below _ T19 (mkF m 34 #[.val (.ref a1), .val (.ref b1), .val (.int (0 : Int32)), .unset, .unset] [])
        refine own_go (fun t k => XS.iconst X19.here hx rfl (hb hby d1_34) k) ?_
        show own_G p e below _ T19 (mkF m 35 #[.val (.ref a1), .val (.ref b1), .val (.int (0 : Int32)), .unset, .unset] [(.int (1 : Int32))])
        refine own_go (fun t k => XS.goto X19.here hx rfl (pc0 := 35) (pc' := 39) rfl (hb hby d1_35) (by decide) (by decide) k) ?_
        show own_G p e below _ T19 (mkF m 39 #[.val (.ref a1), .val (.ref b1), .val (.int (0 : Int32)), .unset, .unset] [(.int (1 : Int32))])
        refine own_go (fun t k => XS.istoreN X19.here hx rfl (hb hby d1_39) rfl (l' := #[.val (.ref a1), .val (.ref b1), .val (.int (0 : Int32)), .val (.int (1 : Int32)), .unset]) rfl k) ?_
        show own_G p e below _ T19 (mkF m 40 #[.val (.ref a1), .val (.ref b1), .val (.int (0 : Int32)), .val (.int (1 : Int32)), .unset] [])
        refine own_go (fun t k => XS.aloadN X19.here hx rfl (hb hby d1_40) rfl rfl k) ?_
        show own_G p e below _ T19 (mkF m 41 #[.val (.ref a1), .val (.ref b1), .val (.int (0 : Int32)), .val (.int (1 : Int32)), .unset] [(.ref a1)])
        refine own_go (fun t k => XS.aloadN X19.here hx rfl (hb hby d1_41) rfl rfl k) ?_
        show own_G p e below _ T19 (mkF m 42 #[.val (.ref a1), .val (.ref b1), .val (.int (0 : Int32)), .val (.int (1 : Int32)), .unset] [(.ref b1), (.ref a1)])
        by_cases hc21 : a1 = b1
        ·
          refine own_go (fun t k => Jvm.Free.XT.acmpNo X19.here hx rfl (hb hby d1_42) rfl rfl rfl (own_acnF hc21) k) ?_
          show own_G p e below _ T19 (mkF m 45 #[.val (.ref a1), .val (.ref b1), .val (.int (0 : Int32)), .val (.int (1 : Int32)), .unset] [])
          refine own_go (fun t k => XS.aloadN X19.here hx rfl (hb hby d1_45) rfl rfl k) ?_
          show own_G p e below _ T19 (mkF m 46 #[.val (.ref a1), .val (.ref b1), .val (.int (0 : Int32)), .val (.int (1 : Int32)), .unset] [(.ref a1)])
          refine own_go (fun t k => XS.astore X19.here hx rfl (hb hby d1_46) rfl rfl (l' := #[.val (.ref a1), .val (.ref b1), .val (.int (0 : Int32)), .val (.int (1 : Int32)), .val (.ref a1)]) rfl k) ?_
          show own_G p e below _ T19 (mkF m 48 #[.val (.ref a1), .val (.ref b1), .val (.int (0 : Int32)), .val (.int (1 : Int32)), .val (.ref a1)] [])
          refine own_go (fun t k => XS.goto X19.here hx rfl (pc0 := 48) (pc' := 90) rfl (hb hby d1_48) (by decide) (by decide) k) ?_
          show own_G p e below _ T19 (mkF m 90 #[.val (.ref a1), .val (.ref b1), .val (.int (0 : Int32)), .val (.int (1 : Int32)), .val (.ref a1)] [])
          refine own_go (fun t k => XS.aload X19.here hx rfl (hb hby d1_90) rfl rfl k) ?_
          show own_G p e below _ T19 (mkF m 92 #[.val (.ref a1), .val (.ref b1), .val (.int (0 : Int32)), .val (.int (1 : Int32)), .val (.ref a1)] [(.ref a1)])
          exact own_retA X19 hx hlk hret rfl rfl (hb hby d1_92) (by decide) (by decide) ⟨congrArg some (Eq.symm (show (own_meet a_NOT_NULL a_UNKNOWN a_NULL a_NULLABLE a1 b1) = (.ref a1) from (by unfold own_meet; rw [if_neg hc2, if_neg hc11, if_pos hc20, if_pos hc21]))), rfl, e19⟩
        ·
          refine own_go (fun t k => Jvm.Free.XT.acmpYes X19.here hx rfl (pc0 := 42) (pc' := 51) rfl (hb hby d1_42) rfl rfl rfl (own_acnT hc21) (by decide) (by decide) k) ?_
          show own_G p e below _ T19 (mkF m 51 #[.val (.ref a1), .val (.ref b1), .val (.int (0 : Int32)), .val (.int (1 : Int32)), .unset] [])
          refine own_go (fun t k => XS.iloadN X19.here hx rfl (hb hby d1_51) rfl k) ?_
          show own_G p e below _ T19 (mkF m 52 #[.val (.ref a1), .val (.ref b1), .val (.int (0 : Int32)), .val (.int (1 : Int32)), .unset] [(.int (0 : Int32))])
          refine own_go (fun t k => XS.ifYes X19.here hx rfl (pc0 := 52) (pc' := 65) rfl (hb hby d1_52) rfl (by decide) (by decide) (by decide) k) ?_
          show own_G p e below _ T19 (mkF m 65 #[.val (.ref a1), .val (.ref b1), .val (.int (0 : Int32)), .val (.int (1 : Int32)), .unset] [])
          refine own_go (fun t k => XS.iloadN X19.here hx rfl (hb hby d1_65) rfl k) ?_
          show own_G p e below _ T19 (mkF m 66 #[.val (.ref a1), .val (.ref b1), .val (.int (0 : Int32)), .val (.int (1 : Int32)), .unset] [(.int (0 : Int32))])
          refine own_go (fun t k => XS.ifYes X19.here hx rfl (pc0 := 66) (pc' := 75) rfl (hb hby d1_66) rfl (by decide) (by decide) (by decide) k) ?_
          show own_G p e below _ T19 (mkF m 75 #[.val (.ref a1), .val (.ref b1), .val (.int (0 : Int32)), .val (.int (1 : Int32)), .unset] [])
          refine own_go (fun t k => XS.iloadN X19.here hx rfl (hb hby d1_75) rfl k) ?_
          show own_G p e below _ T19 (mkF m 76 #[.val (.ref a1), .val (.ref b1), .val (.int (0 : Int32)), .val (.int (1 : Int32)), .unset] [(.int (1 : Int32))])
          refine own_go (fun t k => XS.ifNo X19.here hx rfl (hb hby d1_76) rfl (by decide) k) ?_
          show own_G p e below _ T19 (mkF m 79 #[.val (.ref a1), .val (.ref b1), .val (.int (0 : Int32)), .val (.int (1 : Int32)), .unset] [])
          refine own_go (fun t k => XS.aloadN X19.here hx rfl (hb hby d1_79) rfl rfl k) ?_
          show own_G p e below _ T19 (mkF m 80 #[.val (.ref a1), .val (.ref b1), .val (.int (0 : Int32)), .val (.int (1 : Int32)), .unset] [(.ref b1)])
          refine own_go (fun t k => XS.astore X19.here hx rfl (hb hby d1_80) rfl rfl (l' := #[.val (.ref a1), .val (.ref b1), .val (.int (0 : Int32)), .val (.int (1 : Int32)), .val (.ref b1)]) rfl k) ?_
          show own_G p e below _ T19 (mkF m 82 #[.val (.ref a1), .val (.ref b1), .val (.int (0 : Int32)), .val (.int (1 : Int32)), .val (.ref b1)] [])
          refine own_go (fun t k => XS.goto X19.here hx rfl (pc0 := 82) (pc' := 90) rfl (hb hby d1_82) (by decide) (by decide) k) ?_
          show own_G p e below _ T19 (mkF m 90 #[.val (.ref a1), .val (.ref b1), .val (.int (0 : Int32)), .val (.int (1 : Int32)), .val (.ref b1)] [])
          refine own_go (fun t k => XS.aload X19.here hx rfl (hb hby d1_90) rfl rfl k) ?_
          show own_G p e below _ T19 (mkF m 92 #[.val (.ref a1), .val (.ref b1), .val (.int (0 : Int32)), .val (.int (1 : Int32)), .val (.ref b1)] [(.ref b1)])
          exact own_retA X19 hx hlk hret rfl rfl (hb hby d1_92) (by decide) (by decide) ⟨congrArg some (Eq.symm (show (own_meet a_NOT_NULL a_UNKNOWN a_NULL a_NULLABLE a1 b1) = (.ref b1) from (by unfold own_meet; rw [if_neg hc2, if_neg hc11, if_pos hc20, if_neg hc21]))), rfl, e19⟩
      ·
        refine own_go (fun t k => Jvm.Free.XT.acmpNo X19.here hx rfl (hb hby d1_24) rfl rfl rfl (own_acF hc20) k) ?_
        show own_G p e below _ T19 (mkF m 27 #[.val (.ref a1), .val (.ref b1), .val (.int (0 : Int32)), .unset, .unset] [])
        refine own_go (fun t k => XS.aloadN X19.here hx rfl (hb hby d1_27) rfl rfl k) ?_
        show own_G p e below _ T19 (mkF m 28 #[.val (.ref a1), .val (.ref b1), .val (.int (0 : Int32)), .unset, .unset] [(.ref b1)])
        obtain ⟨T22, X22, e22, st22⟩ := getS X19 hx hZ hown (host := "") (hw _ (List.mem_of_getElem? (i := 19) rfl)) Via.refl e19 S_NULL (g := (mkF m 28 #[.val (.ref a1), .val (.ref b1), .val (.int (0 : Int32)), .unset, .unset] [(.ref b1)])) rfl (hb hby d1_28)
        refine own_go st22 ?_
        show own_G p e below _ T22 (mkF m 31 #[.val (.ref a1), .val (.ref b1), .val (.int (0 : Int32)), .unset, .unset] [(.ref a_NULL), (.ref b1)])
        by_cases hc23 : b1 = a_NULL
        ·
          refine own_go (fun t k => Jvm.Free.XT.acmpNo X22.here hx rfl (hb hby d1_31) rfl rfl rfl (own_acnF hc23) k) ?_
          show own_G p e below _ T22 (mkF m 34 #[.val (.ref a1), .val (.ref b1), .val (.int (0 : Int32)), .unset, .unset] [])
          refine own_go (fun t k => XS.iconst X22.here hx rfl (hb hby d1_34) k) ?_
          show own_G p e below _ T22 (mkF m 35 #[.val (.ref a1), .val (.ref b1), .val (.int (0 : Int32)), .unset, .unset] [(.int (1 : Int32))])
          refine own_go (fun t k => XS.goto X22.here hx rfl (pc0 := 35) (pc' := 39) rfl (hb hby d1_35) (by decide) (by decide) k) ?_
          show own_G p e below _ T22 (mkF m 39 #[.val (.ref a1), .val (.ref b1), .val (.int (0 : Int32)), .unset, .unset] [(.int (1 : Int32))])
          refine own_go (fun t k => XS.istoreN X22.here hx rfl (hb hby d1_39) rfl (l' := #[.val (.ref a1), .val (.ref b1), .val (.int (0 : Int32)), .val (.int (1 : Int32)), .unset]) rfl k) ?_
          show own_G p e below _ T22 (mkF m 40 #[.val (.ref a1), .val (.ref b1), .val (.int (0 : Int32)), .val (.int (1 : Int32)), .unset] [])
          refine own_go (fun t k => XS.aloadN X22.here hx rfl (hb hby d1_40) rfl rfl k) ?_
          show own_G p e below _ T22 (mkF m 41 #[.val (.ref a1), .val (.ref b1), .val (.int (0 : Int32)), .val (.int (1 : Int32)), .unset] [(.ref a1)])
          refine own_go (fun t k => XS.aloadN X22.here hx rfl (hb hby d1_41) rfl rfl k) ?_
          show own_G p e below _ T22 (mkF m 42 #[.val (.ref a1), .val (.ref b1), .val (.int (0 : Int32)), .val (.int (1 : Int32)), .unset] [(.ref b1), (.ref a1)])
          by_cases hc24 : a1 = b1
          ·
            refine own_go (fun t k => Jvm.Free.XT.acmpNo X22.here hx rfl (hb hby d1_42) rfl rfl rfl (own_acnF hc24) k) ?_
            show own_G p e below _ T22 (mkF m 45 #[.val (.ref a1), .val (.ref b1), .val (.int (0 : Int32)), .val (.int (1 : Int32)), .unset] [])
            refine own_go (fun t k => XS.aloadN X22.here hx rfl (hb hby d1_45) rfl rfl k) ?_
            show own_G p e below _ T22 (mkF m 46 #[.val (.ref a1), .val (.ref b1), .val (.int (0 : Int32)), .val (.int (1 : Int32)), .unset] [(.ref a1)])
            refine own_go (fun t k => XS.astore X22.here hx rfl (hb hby d1_46) rfl rfl (l' := #[.val (.ref a1), .val (.ref b1), .val (.int (0 : Int32)), .val (.int (1 : Int32)), .val (.ref a1)]) rfl k) ?_
            show own_G p e below _ T22 (mkF m 48 #[.val (.ref a1), .val (.ref b1), .val (.int (0 : Int32)), .val (.int (1 : Int32)), .val (.ref a1)] [])
            refine own_go (fun t k => XS.goto X22.here hx rfl (pc0 := 48) (pc' := 90) rfl (hb hby d1_48) (by decide) (by decide) k) ?_
            show own_G p e below _ T22 (mkF m 90 #[.val (.ref a1), .val (.ref b1), .val (.int (0 : Int32)), .val (.int (1 : Int32)), .val (.ref a1)] [])
            refine own_go (fun t k => XS.aload X22.here hx rfl (hb hby d1_90) rfl rfl k) ?_
            show own_G p e below _ T22 (mkF m 92 #[.val (.ref a1), .val (.ref b1), .val (.int (0 : Int32)), .val (.int (1 : Int32)), .val (.ref a1)] [(.ref a1)])
            exact own_retA X22 hx hlk hret rfl rfl (hb hby d1_92) (by decide) (by decide) ⟨congrArg some (Eq.symm (show (own_meet a_NOT_NULL a_UNKNOWN a_NULL a_NULLABLE a1 b1) = (.ref a1) from (by unfold own_meet; rw [if_neg hc2, if_neg hc11, if_neg hc20, if_pos hc23, if_pos hc24]))), rfl, e22⟩
          ·
            refine own_go (fun t k => Jvm.Free.XT.acmpYes X22.here hx rfl (pc0 := 42) (pc' := 51) rfl (hb hby d1_42) rfl rfl rfl (own_acnT hc24) (by decide) (by decide) k) ?_
            show own_G p e below _ T22 (mkF m 51 #[.val (.ref a1), .val (.ref b1), .val (.int (0 : Int32)), .val (.int (1 : Int32)), .unset] [])
            refine own_go (fun t k => XS.iloadN X22.here hx rfl (hb hby d1_51) rfl k) ?_
            show own_G p e below _ T22 (mkF m 52 #[.val (.ref a1), .val (.ref b1), .val (.int (0 : Int32)), .val (.int (1 : Int32)), .unset] [(.int (0 : Int32))])
            refine own_go (fun t k => XS.ifYes X22.here hx rfl (pc0 := 52) (pc' := 65) rfl (hb hby d1_52) rfl (by decide) (by decide) (by decide) k) ?_
            show own_G p e below _ T22 (mkF m 65 #[.val (.ref a1), .val (.ref b1), .val (.int (0 : Int32)), .val (.int (1 : Int32)), .unset] [])
            refine own_go (fun t k => XS.iloadN X22.here hx rfl (hb hby d1_65) rfl k) ?_
            show own_G p e below _ T22 (mkF m 66 #[.val (.ref a1), .val (.ref b1), .val (.int (0 : Int32)), .val (.int (1 : Int32)), .unset] [(.int (0 : Int32))])
            refine own_go (fun t k => XS.ifYes X22.here hx rfl (pc0 := 66) (pc' := 75) rfl (hb hby d1_66) rfl (by decide) (by decide) (by decide) k) ?_
            show own_G p e below _ T22 (mkF m 75 #[.val (.ref a1), .val (.ref b1), .val (.int (0 : Int32)), .val (.int (1 : Int32)), .unset] [])
            refine own_go (fun t k => XS.iloadN X22.here hx rfl (hb hby d1_75) rfl k) ?_
            show own_G p e below _ T22 (mkF m 76 #[.val (.ref a1), .val (.ref b1), .val (.int (0 : Int32)), .val (.int (1 : Int32)), .unset] [(.int (1 : Int32))])
            refine own_go (fun t k => XS.ifNo X22.here hx rfl (hb hby d1_76) rfl (by decide) k) ?_
            show own_G p e below _ T22 (mkF m 79 #[.val (.ref a1), .val (.ref b1), .val (.int (0 : Int32)), .val (.int (1 : Int32)), .unset] [])
            refine own_go (fun t k => XS.aloadN X22.here hx rfl (hb hby d1_79) rfl rfl k) ?_
            show own_G p e below _ T22 (mkF m 80 #[.val (.ref a1), .val (.ref b1), .val (.int (0 : Int32)), .val (.int (1 : Int32)), .unset] [(.ref b1)])
            refine own_go (fun t k => XS.astore X22.here hx rfl (hb hby d1_80) rfl rfl (l' := #[.val (.ref a1), .val (.ref b1), .val (.int (0 : Int32)), .val (.int (1 : Int32)), .val (.ref b1)]) rfl k) ?_
            show own_G p e below _ T22 (mkF m 82 #[.val (.ref a1), .val (.ref b1), .val (.int (0 : Int32)), .val (.int (1 : Int32)), .val (.ref b1)] [])
            refine own_go (fun t k => XS.goto X22.here hx rfl (pc0 := 82) (pc' := 90) rfl (hb hby d1_82) (by decide) (by decide) k) ?_
            show own_G p e below _ T22 (mkF m 90 #[.val (.ref a1), .val (.ref b1), .val (.int (0 : Int32)), .val (.int (1 : Int32)), .val (.ref b1)] [])
            refine own_go (fun t k => XS.aload X22.here hx rfl (hb hby d1_90) rfl rfl k) ?_
            show own_G p e below _ T22 (mkF m 92 #[.val (.ref a1), .val (.ref b1), .val (.int (0 : Int32)), .val (.int (1 : Int32)), .val (.ref b1)] [(.ref b1)])
            exact own_retA X22 hx hlk hret rfl rfl (hb hby d1_92) (by decide) (by decide) ⟨congrArg some (Eq.symm (show (own_meet a_NOT_NULL a_UNKNOWN a_NULL a_NULLABLE a1 b1) = (.ref b1) from (by unfold own_meet; rw [if_neg hc2, if_neg hc11, if_neg hc20, if_pos hc23, if_neg hc24]))), rfl, e22⟩
        ·
          refine own_go (fun t k => Jvm.Free.XT.acmpYes X22.here hx rfl (pc0 := 31) (pc' := 38) rfl (hb hby d1_31) rfl rfl rfl (own_acnT hc23) (by decide) (by decide) k) ?_
          show own_G p e below _ T22 (mkF m 38 #[.val (.ref a1), .val (.ref b1), .val (.int (0 : Int32)), .unset, .unset] [])
          refine own_go (fun t k => XS.iconst X22.here hx rfl (hb hby d1_38) k) ?_
          show own_G p e below _ T22 (mkF m 39 #[.val (.ref a1), .val (.ref b1), .val (.int (0 : Int32)), .unset, .unset] [(.int (0 : Int32))])
          refine own_go (fun t k => XS.istoreN X22.here hx rfl (hb hby d1_39) rfl (l' := #[.val (.ref a1), .val (.ref b1), .val (.int (0 : Int32)), .val (.int (0 : Int32)), .unset]) rfl k) ?_
          show own_G p e below _ T22 (mkF m 40 #[.val (.ref a1), .val (.ref b1), .val (.int (0 : Int32)), .val (.int (0 : Int32)), .unset] [])
          refine own_go (fun t k => XS.aloadN X22.here hx rfl (hb hby d1_40) rfl rfl k) ?_
          show own_G p e below _ T22 (mkF m 41 #[.val (.ref a1), .val (.ref b1), .val (.int (0 : Int32)), .val (.int (0 : Int32)), .unset] [(.ref a1)])
          refine own_go (fun t k => XS.aloadN X22.here hx rfl (hb hby d1_41) rfl rfl k) ?_
          show own_G p e below _ T22 (mkF m 42 #[.val (.ref a1), .val (.ref b1), .val (.int (0 : Int32)), .val (.int (0 : Int32)), .unset] [(.ref b1), (.ref a1)])
          by_cases hc25 : a1 = b1
          ·
            refine own_go (fun t k => Jvm.Free.XT.acmpNo X22.here hx rfl (hb hby d1_42) rfl rfl rfl (own_acnF hc25) k) ?_
            show own_G p e below _ T22 (mkF m 45 #[.val (.ref a1), .val (.ref b1), .val (.int (0 : Int32)), .val (.int (0 : Int32)), .unset] [])
            refine own_go (fun t k => XS.aloadN X22.here hx rfl (hb hby d1_45) rfl rfl k) ?_
            show own_G p e below _ T22 (mkF m 46 #[.val (.ref a1), .val (.ref b1), .val (.int (0 : Int32)), .val (.int (0 : Int32)), .unset] [(.ref a1)])
            refine own_go (fun t k => XS.astore X22.here hx rfl (hb hby d1_46) rfl rfl (l' := #[.val (.ref a1), .val (.ref b1), .val (.int (0 : Int32)), .val (.int (0 : Int32)), .val (.ref a1)]) rfl k) ?_
            show own_G p e below _ T22 (mkF m 48 #[.val (.ref a1), .val (.ref b1), .val (.int (0 : Int32)), .val (.int (0 : Int32)), .val (.ref a1)] [])
            refine own_go (fun t k => XS.goto X22.here hx rfl (pc0 := 48) (pc' := 90) rfl (hb hby d1_48) (by decide) (by decide) k) ?_
            show own_G p e below _ T22 (mkF m 90 #[.val (.ref a1), .val (.ref b1), .val (.int (0 : Int32)), .val (.int (0 : Int32)), .val (.ref a1)] [])
            refine own_go (fun t k => XS.aload X22.here hx rfl (hb hby d1_90) rfl rfl k) ?_
            show own_G p e below _ T22 (mkF m 92 #[.val (.ref a1), .val (.ref b1), .val (.int (0 : Int32)), .val (.int (0 : Int32)), .val (.ref a1)] [(.ref a1)])
            exact own_retA X22 hx hlk hret rfl rfl (hb hby d1_92) (by decide) (by decide) ⟨congrArg some (Eq.symm (show (own_meet a_NOT_NULL a_UNKNOWN a_NULL a_NULLABLE a1 b1) = (.ref a1) from (by unfold own_meet; rw [if_neg hc2, if_neg hc11, if_neg hc20, if_neg hc23, if_pos hc25]))), rfl, e22⟩
          ·
            refine own_go (fun t k => Jvm.Free.XT.acmpYes X22.here hx rfl (pc0 := 42) (pc' := 51) rfl (hb hby d1_42) rfl rfl rfl (own_acnT hc25) (by decide) (by decide) k) ?_
            show own_G p e below _ T22 (mkF m 51 #[.val (.ref a1), .val (.ref b1), .val (.int (0 : Int32)), .val (.int (0 : Int32)), .unset] [])
            refine own_go (fun t k => XS.iloadN X22.here hx rfl (hb hby d1_51) rfl k) ?_
            show own_G p e below _ T22 (mkF m 52 #[.val (.ref a1), .val (.ref b1), .val (.int (0 : Int32)), .val (.int (0 : Int32)), .unset] [(.int (0 : Int32))])
            refine own_go (fun t k => XS.ifYes X22.here hx rfl (pc0 := 52) (pc' := 65) rfl (hb hby d1_52) rfl (by decide) (by decide) (by decide) k) ?_
            show own_G p e below _ T22 (mkF m 65 #[.val (.ref a1), .val (.ref b1), .val (.int (0 : Int32)), .val (.int (0 : Int32)), .unset] [])
            refine own_go (fun t k => XS.iloadN X22.here hx rfl (hb hby d1_65) rfl k) ?_
            show own_G p e below _ T22 (mkF m 66 #[.val (.ref a1), .val (.ref b1), .val (.int (0 : Int32)), .val (.int (0 : Int32)), .unset] [(.int (0 : Int32))])
            refine own_go (fun t k => XS.ifYes X22.here hx rfl (pc0 := 66) (pc' := 75) rfl (hb hby d1_66) rfl (by decide) (by decide) (by decide) k) ?_
            show own_G p e below _ T22 (mkF m 75 #[.val (.ref a1), .val (.ref b1), .val (.int (0 : Int32)), .val (.int (0 : Int32)), .unset] [])
            refine own_go (fun t k => XS.iloadN X22.here hx rfl (hb hby d1_75) rfl k) ?_
            show own_G p e below _ T22 (mkF m 76 #[.val (.ref a1), .val (.ref b1), .val (.int (0 : Int32)), .val (.int (0 : Int32)), .unset] [(.int (0 : Int32))])
            refine own_go (fun t k => XS.ifYes X22.here hx rfl (pc0 := 76) (pc' := 85) rfl (hb hby d1_76) rfl (by decide) (by decide) (by decide) k) ?_
            show own_G p e below _ T22 (mkF m 85 #[.val (.ref a1), .val (.ref b1), .val (.int (0 : Int32)), .val (.int (0 : Int32)), .unset] [])
            obtain ⟨T26, X26, e26, st26⟩ := getS X22 hx hZ hown (host := "") (hw _ (List.mem_of_getElem? (i := 20) rfl)) Via.refl e22 S_UNKNOWN (g := (mkF m 85 #[.val (.ref a1), .val (.ref b1), .val (.int (0 : Int32)), .val (.int (0 : Int32)), .unset] [])) rfl (hb hby d1_85)
            refine own_go st26 ?_
            show own_G p e below _ T26 (mkF m 88 #[.val (.ref a1), .val (.ref b1), .val (.int (0 : Int32)), .val (.int (0 : Int32)), .unset] [(.ref a_UNKNOWN)])
            refine own_go (fun t k => XS.astore X26.here hx rfl (hb hby d1_88) rfl rfl (l' := #[.val (.ref a1), .val (.ref b1), .val (.int (0 : Int32)), .val (.int (0 : Int32)), .val (.ref a_UNKNOWN)]) rfl k) ?_
            show own_G p e below _ T26 (mkF m 90 #[.val (.ref a1), .val (.ref b1), .val (.int (0 : Int32)), .val (.int (0 : Int32)), .val (.ref a_UNKNOWN)] [])
            refine own_go (fun t k => XS.aload X26.here hx rfl (hb hby d1_90) rfl rfl k) ?_
            show own_G p e below _ T26 (mkF m 92 #[.val (.ref a1), .val (.ref b1), .val (.int (0 : Int32)), .val (.int (0 : Int32)), .val (.ref a_UNKNOWN)] [(.ref a_UNKNOWN)])
            exact own_retA X26 hx hlk hret rfl rfl (hb hby d1_92) (by decide) (by decide) ⟨congrArg some (Eq.symm (show (own_meet a_NOT_NULL a_UNKNOWN a_NULL a_NULLABLE a1 b1) = (.ref a_UNKNOWN) from (by unfold own_meet; rw [if_neg hc2, if_neg hc11, if_neg hc20, if_neg hc23, if_neg hc25]))), rfl, e26⟩
theorem own_m3 (x : Int32) : 0 ≤ (x &&& 3).toInt ∧ (x &&& 3).toInt ≤ 3 := by
  have := Jvm.Kit.i32_mask x 3 (k := 2) (by decide) (by decide)
  omega
theorem pn_0 : plainName "com/example/nullsight/nullsight/check/NullnessMeetPinLaw" = true := by first | (simp [plainName, overriddenIn]; done) | decide +kernel
set_option maxRecDepth 65536 in
set_option maxHeartbeats 40000000 in
theorem rm0 (l : Launch) (Z : State) (a0 : Array Value) (hw : ∀ d ∈ tables_1, d.before a0 Z = true) (i0 i1 : Int32) (a_NOT_NULL a_UNKNOWN a_NULL a_NULLABLE : Addr) (h0 : Heap) (n0 : Nat) (Z0 : n0 ≤ h0.size) (B : own_B Z h0 a_NOT_NULL a_UNKNOWN a_NULL a_NULLABLE) :
    own_M l Z x code maxLocals ret room_1 #[.int i0, .int i1] h0 (fun v h L => v = some (.int 1) ∧ Fr n0 L) := by
  refine own_body pn_0 ?_
  intro p e s m below meth c T0 hx hby hml hlk hown hret hnm hZ X0 e0
  replace hown : s.vm.findClass "com/example/nullsight/nullsight/check/NullnessMeetPinLaw" = some m.cls := hown
  replace hml : c.maxLocals = 8 := hml
  replace hret : meth.sig.returnType = some .boolean := hret
  obtain ⟨S_NOT_NULL, E_NOT_NULL, S_UNKNOWN, E_UNKNOWN, S_NULL, E_NULL, S_NULLABLE, E_NULLABLE, F_NULLABLE_ordinal, F_NOT_NULL_ordinal, F_NULL_ordinal, F_UNKNOWN_ordinal⟩ := id B
  have hk := own_l4 _ (own_m3 i0).1 (own_m3 i0).2
  have hf := own_l4 _ (own_m3 i1).1 (own_m3 i1).2
  have N0 := Fr.nil n0
  have ef : entryFrame m #[.int i0, .int i1] maxLocals = (mkF m 0 #[.val (.int i0), .val (.int i1), .unset, .unset, .unset, .unset, .unset, .unset] []) := by first | (simp [entryFrame, mkF, argsToLocals, Value.category, maxLocals]; done) | rfl
  rw [ef]
  refine own_go (fun t k => XS.iconst X0.here hx rfl (hb hby at_0) k) ?_
  show own_G p e below _ T0 (mkF m 1 #[.val (.int i0), .val (.int i1), .unset, .unset, .unset, .unset, .unset, .unset] [(.int (4 : Int32))])
  obtain ⟨T1, h1, c1, X1, e1, E1, A1, O1, st1⟩ := newR X0 hx hZ hown (hw _ (List.mem_of_getElem? (i := 0) rfl)) (hw _ (List.mem_of_getElem? (i := 1) rfl)) e0 (g := (mkF m 1 #[.val (.int i0), .val (.int i1), .unset, .unset, .unset, .unset, .unset, .unset] [(.int (4 : Int32))])) rfl (hb hby at_1) rfl (by decide) (cap := 4) (by decide) (by decide) (by decide) (by decide)
  obtain ⟨a1, g1⟩ : ∃ z, z = h0.size := ⟨_, rfl⟩
  rw [← g1] at A1 st1
  replace A1 : Arr Z h1 a1 (own_cell c1 #[.null, .null, .null, .null]) (.object "com/example/nullsight/nullsight/check/Nullness") := A1
  have x1 : Ext h0 h1 := E1
  have j1 : h0.size ≤ a1 := Nat.le_of_eq g1.symm
  refine own_go st1 ?_
  show own_G p e below _ T1 (mkF m 4 #[.val (.int i0), .val (.int i1), .unset, .unset, .unset, .unset, .unset, .unset] [(.ref a1)])
  refine own_go (fun t k => XS.dup X1.here hx rfl (hb hby at_4) rfl rfl k) ?_
  show own_G p e below _ T1 (mkF m 5 #[.val (.int i0), .val (.int i1), .unset, .unset, .unset, .unset, .unset, .unset] [(.ref a1), (.ref a1)])
  refine own_go (fun t k => XS.iconst X1.here hx rfl (hb hby at_5) k) ?_
  show own_G p e below _ T1 (mkF m 6 #[.val (.int i0), .val (.int i1), .unset, .unset, .unset, .unset, .unset, .unset] [(.int (0 : Int32)), (.ref a1), (.ref a1)])
  obtain ⟨T2, X2, e2, st2⟩ := getS X1 hx hZ hown (host := "") (hw _ (List.mem_of_getElem? (i := 2) rfl)) Via.refl e1 (S_NOT_NULL.ext x1) (g := (mkF m 6 #[.val (.int i0), .val (.int i1), .unset, .unset, .unset, .unset, .unset, .unset] [(.int (0 : Int32)), (.ref a1), (.ref a1)])) rfl (hb hby at_6)
  refine own_go st2 ?_
  show own_G p e below _ T2 (mkF m 9 #[.val (.int i0), .val (.int i1), .unset, .unset, .unset, .unset, .unset, .unset] [(.ref a_NOT_NULL), (.int (0 : Int32)), (.ref a1), (.ref a1)])
  obtain ⟨T3, h3, X3, e3, W3, st3⟩ := stR X2 hx hZ e2 A1 (j := (0 : Int32)) (own_in (n := 4) rfl (by decide)) rfl (Sto.of A1 O1 (Ins.self (E_NOT_NULL.ext x1))) (g := (mkF m 9 #[.val (.int i0), .val (.int i1), .unset, .unset, .unset, .unset, .unset, .unset] [(.ref a_NOT_NULL), (.int (0 : Int32)), (.ref a1), (.ref a1)])) rfl rfl (hb hby at_9)
  have A3 : Arr Z h3 a1 (own_cell c1 #[(.ref a_NOT_NULL), .null, .null, .null]) (.object "com/example/nullsight/nullsight/check/Nullness") := A1.same W3
  have x3 : Ext h0 h3 := own_ext_wr x1 W3 j1
  have N3 := Fr.snoc X3 N0 (Nat.le_trans Z0 j1)
  refine own_go st3 ?_
  show own_G p e below _ T3 (mkF m 10 #[.val (.int i0), .val (.int i1), .unset, .unset, .unset, .unset, .unset, .unset] [(.ref a1)])
  refine own_go (fun t k => XS.dup X3.here hx rfl (hb hby at_10) rfl rfl k) ?_
  show own_G p e below _ T3 (mkF m 11 #[.val (.int i0), .val (.int i1), .unset, .unset, .unset, .unset, .unset, .unset] [(.ref a1), (.ref a1)])
  refine own_go (fun t k => XS.iconst X3.here hx rfl (hb hby at_11) k) ?_
  show own_G p e below _ T3 (mkF m 12 #[.val (.int i0), .val (.int i1), .unset, .unset, .unset, .unset, .unset, .unset] [(.int (1 : Int32)), (.ref a1), (.ref a1)])
  obtain ⟨T4, X4, e4, st4⟩ := getS X3 hx hZ hown (host := "") (hw _ (List.mem_of_getElem? (i := 6) rfl)) Via.refl e3 (S_UNKNOWN.ext x3) (g := (mkF m 12 #[.val (.int i0), .val (.int i1), .unset, .unset, .unset, .unset, .unset, .unset] [(.int (1 : Int32)), (.ref a1), (.ref a1)])) rfl (hb hby at_12)
  refine own_go st4 ?_
  show own_G p e below _ T4 (mkF m 15 #[.val (.int i0), .val (.int i1), .unset, .unset, .unset, .unset, .unset, .unset] [(.ref a_UNKNOWN), (.int (1 : Int32)), (.ref a1), (.ref a1)])
  obtain ⟨T5, h5, X5, e5, W5, st5⟩ := stR X4 hx hZ e4 A3 (j := (1 : Int32)) (own_in (n := 4) rfl (by decide)) rfl (Sto.of A3 O1 (Ins.self (E_UNKNOWN.ext x3))) (g := (mkF m 15 #[.val (.int i0), .val (.int i1), .unset, .unset, .unset, .unset, .unset, .unset] [(.ref a_UNKNOWN), (.int (1 : Int32)), (.ref a1), (.ref a1)])) rfl rfl (hb hby at_15)
  have A5 : Arr Z h5 a1 (own_cell c1 #[(.ref a_NOT_NULL), (.ref a_UNKNOWN), .null, .null]) (.object "com/example/nullsight/nullsight/check/Nullness") := A3.same W5
  have x5 : Ext h0 h5 := own_ext_wr x3 W5 j1
  have N5 := Fr.snoc X5 N3 (Nat.le_trans Z0 j1)
  refine own_go st5 ?_
  show own_G p e below _ T5 (mkF m 16 #[.val (.int i0), .val (.int i1), .unset, .unset, .unset, .unset, .unset, .unset] [(.ref a1)])
  refine own_go (fun t k => XS.dup X5.here hx rfl (hb hby at_16) rfl rfl k) ?_
  show own_G p e below _ T5 (mkF m 17 #[.val (.int i0), .val (.int i1), .unset, .unset, .unset, .unset, .unset, .unset] [(.ref a1), (.ref a1)])
  refine own_go (fun t k => XS.iconst X5.here hx rfl (hb hby at_17) k) ?_
  show own_G p e below _ T5 (mkF m 18 #[.val (.int i0), .val (.int i1), .unset, .unset, .unset, .unset, .unset, .unset] [(.int (2 : Int32)), (.ref a1), (.ref a1)])
  obtain ⟨T6, X6, e6, st6⟩ := getS X5 hx hZ hown (host := "") (hw _ (List.mem_of_getElem? (i := 8) rfl)) Via.refl e5 (S_NULL.ext x5) (g := (mkF m 18 #[.val (.int i0), .val (.int i1), .unset, .unset, .unset, .unset, .unset, .unset] [(.int (2 : Int32)), (.ref a1), (.ref a1)])) rfl (hb hby at_18)
  refine own_go st6 ?_
  show own_G p e below _ T6 (mkF m 21 #[.val (.int i0), .val (.int i1), .unset, .unset, .unset, .unset, .unset, .unset] [(.ref a_NULL), (.int (2 : Int32)), (.ref a1), (.ref a1)])
  obtain ⟨T7, h7, X7, e7, W7, st7⟩ := stR X6 hx hZ e6 A5 (j := (2 : Int32)) (own_in (n := 4) rfl (by decide)) rfl (Sto.of A5 O1 (Ins.self (E_NULL.ext x5))) (g := (mkF m 21 #[.val (.int i0), .val (.int i1), .unset, .unset, .unset, .unset, .unset, .unset] [(.ref a_NULL), (.int (2 : Int32)), (.ref a1), (.ref a1)])) rfl rfl (hb hby at_21)
  have A7 : Arr Z h7 a1 (own_cell c1 #[(.ref a_NOT_NULL), (.ref a_UNKNOWN), (.ref a_NULL), .null]) (.object "com/example/nullsight/nullsight/check/Nullness") := A5.same W7
  have x7 : Ext h0 h7 := own_ext_wr x5 W7 j1
  have N7 := Fr.snoc X7 N5 (Nat.le_trans Z0 j1)
  refine own_go st7 ?_
  show own_G p e below _ T7 (mkF m 22 #[.val (.int i0), .val (.int i1), .unset, .unset, .unset, .unset, .unset, .unset] [(.ref a1)])
  refine own_go (fun t k => XS.dup X7.here hx rfl (hb hby at_22) rfl rfl k) ?_
  show own_G p e below _ T7 (mkF m 23 #[.val (.int i0), .val (.int i1), .unset, .unset, .unset, .unset, .unset, .unset] [(.ref a1), (.ref a1)])
  refine own_go (fun t k => XS.iconst X7.here hx rfl (hb hby at_23) k) ?_
  show own_G p e below _ T7 (mkF m 24 #[.val (.int i0), .val (.int i1), .unset, .unset, .unset, .unset, .unset, .unset] [(.int (3 : Int32)), (.ref a1), (.ref a1)])
  obtain ⟨T8, X8, e8, st8⟩ := getS X7 hx hZ hown (host := "") (hw _ (List.mem_of_getElem? (i := 10) rfl)) Via.refl e7 (S_NULLABLE.ext x7) (g := (mkF m 24 #[.val (.int i0), .val (.int i1), .unset, .unset, .unset, .unset, .unset, .unset] [(.int (3 : Int32)), (.ref a1), (.ref a1)])) rfl (hb hby at_24)
  refine own_go st8 ?_
  show own_G p e below _ T8 (mkF m 27 #[.val (.int i0), .val (.int i1), .unset, .unset, .unset, .unset, .unset, .unset] [(.ref a_NULLABLE), (.int (3 : Int32)), (.ref a1), (.ref a1)])
  obtain ⟨T9, h9, X9, e9, W9, st9⟩ := stR X8 hx hZ e8 A7 (j := (3 : Int32)) (own_in (n := 4) rfl (by decide)) rfl (Sto.of A7 O1 (Ins.self (E_NULLABLE.ext x7))) (g := (mkF m 27 #[.val (.int i0), .val (.int i1), .unset, .unset, .unset, .unset, .unset, .unset] [(.ref a_NULLABLE), (.int (3 : Int32)), (.ref a1), (.ref a1)])) rfl rfl (hb hby at_27)
  have A9 : Arr Z h9 a1 (own_cell c1 #[(.ref a_NOT_NULL), (.ref a_UNKNOWN), (.ref a_NULL), (.ref a_NULLABLE)]) (.object "com/example/nullsight/nullsight/check/Nullness") := A7.same W9
  have x9 : Ext h0 h9 := own_ext_wr x7 W9 j1
  have N9 := Fr.snoc X9 N7 (Nat.le_trans Z0 j1)
  refine own_go st9 ?_
  show own_G p e below _ T9 (mkF m 28 #[.val (.int i0), .val (.int i1), .unset, .unset, .unset, .unset, .unset, .unset] [(.ref a1)])
  refine own_go (fun t k => XS.astoreN X9.here hx rfl (hb hby at_28) rfl rfl (l' := #[.val (.int i0), .val (.int i1), .val (.ref a1), .unset, .unset, .unset, .unset, .unset]) rfl k) ?_
  show own_G p e below _ T9 (mkF m 29 #[.val (.int i0), .val (.int i1), .val (.ref a1), .unset, .unset, .unset, .unset, .unset] [])
  refine own_go (fun t k => XS.bipush X9.here hx rfl (hb hby at_29) k) ?_
  show own_G p e below _ T9 (mkF m 31 #[.val (.int i0), .val (.int i1), .val (.ref a1), .unset, .unset, .unset, .unset, .unset] [(.int (16 : Int32))])
  obtain ⟨T10, h10, c10, X10, e10, E10, A10, st10⟩ := newP X9 hx hZ (hw _ (List.mem_of_getElem? (i := 12) rfl)) e9 (g := (mkF m 31 #[.val (.int i0), .val (.int i1), .val (.ref a1), .unset, .unset, .unset, .unset, .unset] [(.int (16 : Int32))])) rfl (hb hby at_31) rfl (by decide) (cap := 16) (by decide) (by decide) (by decide) (by decide)
  obtain ⟨a10, g10⟩ : ∃ z, z = h9.size := ⟨_, rfl⟩
  rw [← g10] at A10 st10
  replace A10 : Arr Z h10 a10 (own_cell c10 #[(.int 0), (.int 0), (.int 0), (.int 0), (.int 0), (.int 0), (.int 0), (.int 0), (.int 0), (.int 0), (.int 0), (.int 0), (.int 0), (.int 0), (.int 0), (.int 0)]) .int := A10
  have x10 : Ext h0 h10 := own_ext_trans x9 E10
  have j10 : h0.size ≤ a10 := Nat.le_trans x9.1 (Nat.le_of_eq g10.symm)
  have ne11 : a1 ≠ a10 := Nat.ne_of_lt (Nat.lt_of_lt_of_le A9.lt (Nat.le_of_eq g10.symm))
  have A12 := A9.ext E10
  refine own_go st10 ?_
  show own_G p e below _ T10 (mkF m 33 #[.val (.int i0), .val (.int i1), .val (.ref a1), .unset, .unset, .unset, .unset, .unset] [(.ref a10)])
  refine own_go (fun t k => XS.dup X10.here hx rfl (hb hby at_33) rfl rfl k) ?_
  show own_G p e below _ T10 (mkF m 34 #[.val (.int i0), .val (.int i1), .val (.ref a1), .unset, .unset, .unset, .unset, .unset] [(.ref a10), (.ref a10)])
  refine own_go (fun t k => XS.iconst X10.here hx rfl (hb hby at_34) k) ?_
  show own_G p e below _ T10 (mkF m 35 #[.val (.int i0), .val (.int i1), .val (.ref a1), .unset, .unset, .unset, .unset, .unset] [(.int (0 : Int32)), (.ref a10), (.ref a10)])
  refine own_go (fun t k => XS.iconst X10.here hx rfl (hb hby at_35) k) ?_
  show own_G p e below _ T10 (mkF m 36 #[.val (.int i0), .val (.int i1), .val (.ref a1), .unset, .unset, .unset, .unset, .unset] [(.int (0 : Int32)), (.int (0 : Int32)), (.ref a10), (.ref a10)])
  obtain ⟨T13, h13, X13, e13, W13, st13⟩ := stI X10 hx hZ e10 A10 (j := (0 : Int32)) (own_in (n := 16) rfl (by decide)) (g := (mkF m 36 #[.val (.int i0), .val (.int i1), .val (.ref a1), .unset, .unset, .unset, .unset, .unset] [(.int (0 : Int32)), (.int (0 : Int32)), (.ref a10), (.ref a10)])) rfl rfl (hb hby at_36)
  have A13 : Arr Z h13 a10 (own_cell c10 #[(.int (0 : Int32)), (.int 0), (.int 0), (.int 0), (.int 0), (.int 0), (.int 0), (.int 0), (.int 0), (.int 0), (.int 0), (.int 0), (.int 0), (.int 0), (.int 0), (.int 0)]) .int := A10.same W13
  have x13 : Ext h0 h13 := own_ext_wr x10 W13 j10
  have N13 := Fr.snoc X13 N9 (Nat.le_trans Z0 j10)
  have A14 := A12.other W13 ne11
  refine own_go st13 ?_
  show own_G p e below _ T13 (mkF m 37 #[.val (.int i0), .val (.int i1), .val (.ref a1), .unset, .unset, .unset, .unset, .unset] [(.ref a10)])
  refine own_go (fun t k => XS.dup X13.here hx rfl (hb hby at_37) rfl rfl k) ?_
  show own_G p e below _ T13 (mkF m 38 #[.val (.int i0), .val (.int i1), .val (.ref a1), .unset, .unset, .unset, .unset, .unset] [(.ref a10), (.ref a10)])
  refine own_go (fun t k => XS.iconst X13.here hx rfl (hb hby at_38) k) ?_
  show own_G p e below _ T13 (mkF m 39 #[.val (.int i0), .val (.int i1), .val (.ref a1), .unset, .unset, .unset, .unset, .unset] [(.int (1 : Int32)), (.ref a10), (.ref a10)])
  refine own_go (fun t k => XS.iconst X13.here hx rfl (hb hby at_39) k) ?_
  show own_G p e below _ T13 (mkF m 40 #[.val (.int i0), .val (.int i1), .val (.ref a1), .unset, .unset, .unset, .unset, .unset] [(.int (0 : Int32)), (.int (1 : Int32)), (.ref a10), (.ref a10)])
  obtain ⟨T15, h15, X15, e15, W15, st15⟩ := stI X13 hx hZ e13 A13 (j := (1 : Int32)) (own_in (n := 16) rfl (by decide)) (g := (mkF m 40 #[.val (.int i0), .val (.int i1), .val (.ref a1), .unset, .unset, .unset, .unset, .unset] [(.int (0 : Int32)), (.int (1 : Int32)), (.ref a10), (.ref a10)])) rfl rfl (hb hby at_40)
  have A15 : Arr Z h15 a10 (own_cell c10 #[(.int (0 : Int32)), (.int (0 : Int32)), (.int 0), (.int 0), (.int 0), (.int 0), (.int 0), (.int 0), (.int 0), (.int 0), (.int 0), (.int 0), (.int 0), (.int 0), (.int 0), (.int 0)]) .int := A13.same W15
  have x15 : Ext h0 h15 := own_ext_wr x13 W15 j10
  have N15 := Fr.snoc X15 N13 (Nat.le_trans Z0 j10)
  have A16 := A14.other W15 ne11
  refine own_go st15 ?_
  show own_G p e below _ T15 (mkF m 41 #[.val (.int i0), .val (.int i1), .val (.ref a1), .unset, .unset, .unset, .unset, .unset] [(.ref a10)])
  refine own_go (fun t k => XS.dup X15.here hx rfl (hb hby at_41) rfl rfl k) ?_
  show own_G p e below _ T15 (mkF m 42 #[.val (.int i0), .val (.int i1), .val (.ref a1), .unset, .unset, .unset, .unset, .unset] [(.ref a10), (.ref a10)])
  refine own_go (fun t k => XS.iconst X15.here hx rfl (hb hby at_42) k) ?_
  show own_G p e below _ T15 (mkF m 43 #[.val (.int i0), .val (.int i1), .val (.ref a1), .unset, .unset, .unset, .unset, .unset] [(.int (2 : Int32)), (.ref a10), (.ref a10)])
  refine own_go (fun t k => XS.iconst X15.here hx rfl (hb hby at_43) k) ?_
  show own_G p e below _ T15 (mkF m 44 #[.val (.int i0), .val (.int i1), .val (.ref a1), .unset, .unset, .unset, .unset, .unset] [(.int (-1 : Int32)), (.int (2 : Int32)), (.ref a10), (.ref a10)])
  obtain ⟨T17, h17, X17, e17, W17, st17⟩ := stI X15 hx hZ e15 A15 (j := (2 : Int32)) (own_in (n := 16) rfl (by decide)) (g := (mkF m 44 #[.val (.int i0), .val (.int i1), .val (.ref a1), .unset, .unset, .unset, .unset, .unset] [(.int (-1 : Int32)), (.int (2 : Int32)), (.ref a10), (.ref a10)])) rfl rfl (hb hby at_44)
  have A17 : Arr Z h17 a10 (own_cell c10 #[(.int (0 : Int32)), (.int (0 : Int32)), (.int (-1 : Int32)), (.int 0), (.int 0), (.int 0), (.int 0), (.int 0), (.int 0), (.int 0), (.int 0), (.int 0), (.int 0), (.int 0), (.int 0), (.int 0)]) .int := A15.same W17
  have x17 : Ext h0 h17 := own_ext_wr x15 W17 j10
  have N17 := Fr.snoc X17 N15 (Nat.le_trans Z0 j10)
  have A18 := A16.other W17 ne11
  refine own_go st17 ?_
  show own_G p e below _ T17 (mkF m 45 #[.val (.int i0), .val (.int i1), .val (.ref a1), .unset, .unset, .unset, .unset, .unset] [(.ref a10)])
  refine own_go (fun t k => XS.dup X17.here hx rfl (hb hby at_45) rfl rfl k) ?_
  show own_G p e below _ T17 (mkF m 46 #[.val (.int i0), .val (.int i1), .val (.ref a1), .unset, .unset, .unset, .unset, .unset] [(.ref a10), (.ref a10)])
  refine own_go (fun t k => XS.iconst X17.here hx rfl (hb hby at_46) k) ?_
  show own_G p e below _ T17 (mkF m 47 #[.val (.int i0), .val (.int i1), .val (.ref a1), .unset, .unset, .unset, .unset, .unset] [(.int (3 : Int32)), (.ref a10), (.ref a10)])
  refine own_go (fun t k => XS.iconst X17.here hx rfl (hb hby at_47) k) ?_
  show own_G p e below _ T17 (mkF m 48 #[.val (.int i0), .val (.int i1), .val (.ref a1), .unset, .unset, .unset, .unset, .unset] [(.int (0 : Int32)), (.int (3 : Int32)), (.ref a10), (.ref a10)])
  obtain ⟨T19, h19, X19, e19, W19, st19⟩ := stI X17 hx hZ e17 A17 (j := (3 : Int32)) (own_in (n := 16) rfl (by decide)) (g := (mkF m 48 #[.val (.int i0), .val (.int i1), .val (.ref a1), .unset, .unset, .unset, .unset, .unset] [(.int (0 : Int32)), (.int (3 : Int32)), (.ref a10), (.ref a10)])) rfl rfl (hb hby at_48)
  have A19 : Arr Z h19 a10 (own_cell c10 #[(.int (0 : Int32)), (.int (0 : Int32)), (.int (-1 : Int32)), (.int (0 : Int32)), (.int 0), (.int 0), (.int 0), (.int 0), (.int 0), (.int 0), (.int 0), (.int 0), (.int 0), (.int 0), (.int 0), (.int 0)]) .int := A17.same W19
  have x19 : Ext h0 h19 := own_ext_wr x17 W19 j10
  have N19 := Fr.snoc X19 N17 (Nat.le_trans Z0 j10)
  have A20 := A18.other W19 ne11
  refine own_go st19 ?_
  show own_G p e below _ T19 (mkF m 49 #[.val (.int i0), .val (.int i1), .val (.ref a1), .unset, .unset, .unset, .unset, .unset] [(.ref a10)])
  refine own_go (fun t k => XS.dup X19.here hx rfl (hb hby at_49) rfl rfl k) ?_
  show own_G p e below _ T19 (mkF m 50 #[.val (.int i0), .val (.int i1), .val (.ref a1), .unset, .unset, .unset, .unset, .unset] [(.ref a10), (.ref a10)])
  refine own_go (fun t k => XS.iconst X19.here hx rfl (hb hby at_50) k) ?_
  show own_G p e below _ T19 (mkF m 51 #[.val (.int i0), .val (.int i1), .val (.ref a1), .unset, .unset, .unset, .unset, .unset] [(.int (4 : Int32)), (.ref a10), (.ref a10)])
  refine own_go (fun t k => XS.iconst X19.here hx rfl (hb hby at_51) k) ?_
  show own_G p e below _ T19 (mkF m 52 #[.val (.int i0), .val (.int i1), .val (.ref a1), .unset, .unset, .unset, .unset, .unset] [(.int (0 : Int32)), (.int (4 : Int32)), (.ref a10), (.ref a10)])
  obtain ⟨T21, h21, X21, e21, W21, st21⟩ := stI X19 hx hZ e19 A19 (j := (4 : Int32)) (own_in (n := 16) rfl (by decide)) (g := (mkF m 52 #[.val (.int i0), .val (.int i1), .val (.ref a1), .unset, .unset, .unset, .unset, .unset] [(.int (0 : Int32)), (.int (4 : Int32)), (.ref a10), (.ref a10)])) rfl rfl (hb hby at_52)
  have A21 : Arr Z h21 a10 (own_cell c10 #[(.int (0 : Int32)), (.int (0 : Int32)), (.int (-1 : Int32)), (.int (0 : Int32)), (.int (0 : Int32)), (.int 0), (.int 0), (.int 0), (.int 0), (.int 0), (.int 0), (.int 0), (.int 0), (.int 0), (.int 0), (.int 0)]) .int := A19.same W21
  have x21 : Ext h0 h21 := own_ext_wr x19 W21 j10
  have N21 := Fr.snoc X21 N19 (Nat.le_trans Z0 j10)
  have A22 := A20.other W21 ne11
  refine own_go st21 ?_
  show own_G p e below _ T21 (mkF m 53 #[.val (.int i0), .val (.int i1), .val (.ref a1), .unset, .unset, .unset, .unset, .unset] [(.ref a10)])
  refine own_go (fun t k => XS.dup X21.here hx rfl (hb hby at_53) rfl rfl k) ?_
  show own_G p e below _ T21 (mkF m 54 #[.val (.int i0), .val (.int i1), .val (.ref a1), .unset, .unset, .unset, .unset, .unset] [(.ref a10), (.ref a10)])
  refine own_go (fun t k => XS.iconst X21.here hx rfl (hb hby at_54) k) ?_
  show own_G p e below _ T21 (mkF m 55 #[.val (.int i0), .val (.int i1), .val (.ref a1), .unset, .unset, .unset, .unset, .unset] [(.int (5 : Int32)), (.ref a10), (.ref a10)])
  refine own_go (fun t k => XS.iconst X21.here hx rfl (hb hby at_55) k) ?_
  show own_G p e below _ T21 (mkF m 56 #[.val (.int i0), .val (.int i1), .val (.ref a1), .unset, .unset, .unset, .unset, .unset] [(.int (1 : Int32)), (.int (5 : Int32)), (.ref a10), (.ref a10)])
  obtain ⟨T23, h23, X23, e23, W23, st23⟩ := stI X21 hx hZ e21 A21 (j := (5 : Int32)) (own_in (n := 16) rfl (by decide)) (g := (mkF m 56 #[.val (.int i0), .val (.int i1), .val (.ref a1), .unset, .unset, .unset, .unset, .unset] [(.int (1 : Int32)), (.int (5 : Int32)), (.ref a10), (.ref a10)])) rfl rfl (hb hby at_56)
  have A23 : Arr Z h23 a10 (own_cell c10 #[(.int (0 : Int32)), (.int (0 : Int32)), (.int (-1 : Int32)), (.int (0 : Int32)), (.int (0 : Int32)), (.int (1 : Int32)), (.int 0), (.int 0), (.int 0), (.int 0), (.int 0), (.int 0), (.int 0), (.int 0), (.int 0), (.int 0)]) .int := A21.same W23
  have x23 : Ext h0 h23 := own_ext_wr x21 W23 j10
  have N23 := Fr.snoc X23 N21 (Nat.le_trans Z0 j10)
  have A24 := A22.other W23 ne11
  refine own_go st23 ?_
  show own_G p e below _ T23 (mkF m 57 #[.val (.int i0), .val (.int i1), .val (.ref a1), .unset, .unset, .unset, .unset, .unset] [(.ref a10)])
  refine own_go (fun t k => XS.dup X23.here hx rfl (hb hby at_57) rfl rfl k) ?_
  show own_G p e below _ T23 (mkF m 58 #[.val (.int i0), .val (.int i1), .val (.ref a1), .unset, .unset, .unset, .unset, .unset] [(.ref a10), (.ref a10)])
  refine own_go (fun t k => XS.bipush X23.here hx rfl (hb hby at_58) k) ?_
  show own_G p e below _ T23 (mkF m 60 #[.val (.int i0), .val (.int i1), .val (.ref a1), .unset, .unset, .unset, .unset, .unset] [(.int (6 : Int32)), (.ref a10), (.ref a10)])
  refine own_go (fun t k => XS.iconst X23.here hx rfl (hb hby at_60) k) ?_
  show own_G p e below _ T23 (mkF m 61 #[.val (.int i0), .val (.int i1), .val (.ref a1), .unset, .unset, .unset, .unset, .unset] [(.int (2 : Int32)), (.int (6 : Int32)), (.ref a10), (.ref a10)])
  obtain ⟨T25, h25, X25, e25, W25, st25⟩ := stI X23 hx hZ e23 A23 (j := (6 : Int32)) (own_in (n := 16) rfl (by decide)) (g := (mkF m 61 #[.val (.int i0), .val (.int i1), .val (.ref a1), .unset, .unset, .unset, .unset, .unset] [(.int (2 : Int32)), (.int (6 : Int32)), (.ref a10), (.ref a10)])) rfl rfl (hb hby at_61)
  have A25 : Arr Z h25 a10 (own_cell c10 #[(.int (0 : Int32)), (.int (0 : Int32)), (.int (-1 : Int32)), (.int (0 : Int32)), (.int (0 : Int32)), (.int (1 : Int32)), (.int (2 : Int32)), (.int 0), (.int 0), (.int 0), (.int 0), (.int 0), (.int 0), (.int 0), (.int 0), (.int 0)]) .int := A23.same W25
  have x25 : Ext h0 h25 := own_ext_wr x23 W25 j10
  have N25 := Fr.snoc X25 N23 (Nat.le_trans Z0 j10)
  have A26 := A24.other W25 ne11
  refine own_go st25 ?_
  show own_G p e below _ T25 (mkF m 62 #[.val (.int i0), .val (.int i1), .val (.ref a1), .unset, .unset, .unset, .unset, .unset] [(.ref a10)])
  refine own_go (fun t k => XS.dup X25.here hx rfl (hb hby at_62) rfl rfl k) ?_
  show own_G p e below _ T25 (mkF m 63 #[.val (.int i0), .val (.int i1), .val (.ref a1), .unset, .unset, .unset, .unset, .unset] [(.ref a10), (.ref a10)])
  refine own_go (fun t k => XS.bipush X25.here hx rfl (hb hby at_63) k) ?_
  show own_G p e below _ T25 (mkF m 65 #[.val (.int i0), .val (.int i1), .val (.ref a1), .unset, .unset, .unset, .unset, .unset] [(.int (7 : Int32)), (.ref a10), (.ref a10)])
  refine own_go (fun t k => XS.iconst X25.here hx rfl (hb hby at_65) k) ?_
  show own_G p e below _ T25 (mkF m 66 #[.val (.int i0), .val (.int i1), .val (.ref a1), .unset, .unset, .unset, .unset, .unset] [(.int (1 : Int32)), (.int (7 : Int32)), (.ref a10), (.ref a10)])
  obtain ⟨T27, h27, X27, e27, W27, st27⟩ := stI X25 hx hZ e25 A25 (j := (7 : Int32)) (own_in (n := 16) rfl (by decide)) (g := (mkF m 66 #[.val (.int i0), .val (.int i1), .val (.ref a1), .unset, .unset, .unset, .unset, .unset] [(.int (1 : Int32)), (.int (7 : Int32)), (.ref a10), (.ref a10)])) rfl rfl (hb hby at_66)
  have A27 : Arr Z h27 a10 (own_cell c10 #[(.int (0 : Int32)), (.int (0 : Int32)), (.int (-1 : Int32)), (.int (0 : Int32)), (.int (0 : Int32)), (.int (1 : Int32)), (.int (2 : Int32)), (.int (1 : Int32)), (.int 0), (.int 0), (.int 0), (.int 0), (.int 0), (.int 0), (.int 0), (.int 0)]) .int := A25.same W27
  have x27 : Ext h0 h27 := own_ext_wr x25 W27 j10
  have N27 := Fr.snoc X27 N25 (Nat.le_trans Z0 j10)
  have A28 := A26.other W27 ne11
  refine own_go st27 ?_
  show own_G p e below _ T27 (mkF m 67 #[.val (.int i0), .val (.int i1), .val (.ref a1), .unset, .unset, .unset, .unset, .unset] [(.ref a10)])
  refine own_go (fun t k => XS.dup X27.here hx rfl (hb hby at_67) rfl rfl k) ?_
  show own_G p e below _ T27 (mkF m 68 #[.val (.int i0), .val (.int i1), .val (.ref a1), .unset, .unset, .unset, .unset, .unset] [(.ref a10), (.ref a10)])
  refine own_go (fun t k => XS.bipush X27.here hx rfl (hb hby at_68) k) ?_
  show own_G p e below _ T27 (mkF m 70 #[.val (.int i0), .val (.int i1), .val (.ref a1), .unset, .unset, .unset, .unset, .unset] [(.int (8 : Int32)), (.ref a10), (.ref a10)])
  refine own_go (fun t k => XS.iconst X27.here hx rfl (hb hby at_70) k) ?_
  show own_G p e below _ T27 (mkF m 71 #[.val (.int i0), .val (.int i1), .val (.ref a1), .unset, .unset, .unset, .unset, .unset] [(.int (-1 : Int32)), (.int (8 : Int32)), (.ref a10), (.ref a10)])
  obtain ⟨T29, h29, X29, e29, W29, st29⟩ := stI X27 hx hZ e27 A27 (j := (8 : Int32)) (own_in (n := 16) rfl (by decide)) (g := (mkF m 71 #[.val (.int i0), .val (.int i1), .val (.ref a1), .unset, .unset, .unset, .unset, .unset] [(.int (-1 : Int32)), (.int (8 : Int32)), (.ref a10), (.ref a10)])) rfl rfl (hb hby at_71)
  have A29 : Arr Z h29 a10 (own_cell c10 #[(.int (0 : Int32)), (.int (0 : Int32)), (.int (-1 : Int32)), (.int (0 : Int32)), (.int (0 : Int32)), (.int (1 : Int32)), (.int (2 : Int32)), (.int (1 : Int32)), (.int (-1 : Int32)), (.int 0), (.int 0), (.int 0), (.int 0), (.int 0), (.int 0), (.int 0)]) .int := A27.same W29
  have x29 : Ext h0 h29 := own_ext_wr x27 W29 j10
  have N29 := Fr.snoc X29 N27 (Nat.le_trans Z0 j10)
  have A30 := A28.other W29 ne11
  refine own_go st29 ?_
  show own_G p e below _ T29 (mkF m 72 #[.val (.int i0), .val (.int i1), .val (.ref a1), .unset, .unset, .unset, .unset, .unset] [(.ref a10)])
  refine own_go (fun t k => XS.dup X29.here hx rfl (hb hby at_72) rfl rfl k) ?_
  show own_G p e below _ T29 (mkF m 73 #[.val (.int i0), .val (.int i1), .val (.ref a1), .unset, .unset, .unset, .unset, .unset] [(.ref a10), (.ref a10)])
  refine own_go (fun t k => XS.bipush X29.here hx rfl (hb hby at_73) k) ?_
  show own_G p e below _ T29 (mkF m 75 #[.val (.int i0), .val (.int i1), .val (.ref a1), .unset, .unset, .unset, .unset, .unset] [(.int (9 : Int32)), (.ref a10), (.ref a10)])
  refine own_go (fun t k => XS.iconst X29.here hx rfl (hb hby at_75) k) ?_
  show own_G p e below _ T29 (mkF m 76 #[.val (.int i0), .val (.int i1), .val (.ref a1), .unset, .unset, .unset, .unset, .unset] [(.int (2 : Int32)), (.int (9 : Int32)), (.ref a10), (.ref a10)])
  obtain ⟨T31, h31, X31, e31, W31, st31⟩ := stI X29 hx hZ e29 A29 (j := (9 : Int32)) (own_in (n := 16) rfl (by decide)) (g := (mkF m 76 #[.val (.int i0), .val (.int i1), .val (.ref a1), .unset, .unset, .unset, .unset, .unset] [(.int (2 : Int32)), (.int (9 : Int32)), (.ref a10), (.ref a10)])) rfl rfl (hb hby at_76)
  have A31 : Arr Z h31 a10 (own_cell c10 #[(.int (0 : Int32)), (.int (0 : Int32)), (.int (-1 : Int32)), (.int (0 : Int32)), (.int (0 : Int32)), (.int (1 : Int32)), (.int (2 : Int32)), (.int (1 : Int32)), (.int (-1 : Int32)), (.int (2 : Int32)), (.int 0), (.int 0), (.int 0), (.int 0), (.int 0), (.int 0)]) .int := A29.same W31
  have x31 : Ext h0 h31 := own_ext_wr x29 W31 j10
  have N31 := Fr.snoc X31 N29 (Nat.le_trans Z0 j10)
  have A32 := A30.other W31 ne11
  refine own_go st31 ?_
  show own_G p e below _ T31 (mkF m 77 #[.val (.int i0), .val (.int i1), .val (.ref a1), .unset, .unset, .unset, .unset, .unset] [(.ref a10)])
  refine own_go (fun t k => XS.dup X31.here hx rfl (hb hby at_77) rfl rfl k) ?_
  show own_G p e below _ T31 (mkF m 78 #[.val (.int i0), .val (.int i1), .val (.ref a1), .unset, .unset, .unset, .unset, .unset] [(.ref a10), (.ref a10)])
  refine own_go (fun t k => XS.bipush X31.here hx rfl (hb hby at_78) k) ?_
  show own_G p e below _ T31 (mkF m 80 #[.val (.int i0), .val (.int i1), .val (.ref a1), .unset, .unset, .unset, .unset, .unset] [(.int (10 : Int32)), (.ref a10), (.ref a10)])
  refine own_go (fun t k => XS.iconst X31.here hx rfl (hb hby at_80) k) ?_
  show own_G p e below _ T31 (mkF m 81 #[.val (.int i0), .val (.int i1), .val (.ref a1), .unset, .unset, .unset, .unset, .unset] [(.int (2 : Int32)), (.int (10 : Int32)), (.ref a10), (.ref a10)])
  obtain ⟨T33, h33, X33, e33, W33, st33⟩ := stI X31 hx hZ e31 A31 (j := (10 : Int32)) (own_in (n := 16) rfl (by decide)) (g := (mkF m 81 #[.val (.int i0), .val (.int i1), .val (.ref a1), .unset, .unset, .unset, .unset, .unset] [(.int (2 : Int32)), (.int (10 : Int32)), (.ref a10), (.ref a10)])) rfl rfl (hb hby at_81)
  have A33 : Arr Z h33 a10 (own_cell c10 #[(.int (0 : Int32)), (.int (0 : Int32)), (.int (-1 : Int32)), (.int (0 : Int32)), (.int (0 : Int32)), (.int (1 : Int32)), (.int (2 : Int32)), (.int (1 : Int32)), (.int (-1 : Int32)), (.int (2 : Int32)), (.int (2 : Int32)), (.int 0), (.int 0), (.int 0), (.int 0), (.int 0)]) .int := A31.same W33
  have x33 : Ext h0 h33 := own_ext_wr x31 W33 j10
  have N33 := Fr.snoc X33 N31 (Nat.le_trans Z0 j10)
  have A34 := A32.other W33 ne11
  refine own_go st33 ?_
  show own_G p e below _ T33 (mkF m 82 #[.val (.int i0), .val (.int i1), .val (.ref a1), .unset, .unset, .unset, .unset, .unset] [(.ref a10)])
  refine own_go (fun t k => XS.dup X33.here hx rfl (hb hby at_82) rfl rfl k) ?_
  show own_G p e below _ T33 (mkF m 83 #[.val (.int i0), .val (.int i1), .val (.ref a1), .unset, .unset, .unset, .unset, .unset] [(.ref a10), (.ref a10)])
  refine own_go (fun t k => XS.bipush X33.here hx rfl (hb hby at_83) k) ?_
  show own_G p e below _ T33 (mkF m 85 #[.val (.int i0), .val (.int i1), .val (.ref a1), .unset, .unset, .unset, .unset, .unset] [(.int (11 : Int32)), (.ref a10), (.ref a10)])
  refine own_go (fun t k => XS.iconst X33.here hx rfl (hb hby at_85) k) ?_
  show own_G p e below _ T33 (mkF m 86 #[.val (.int i0), .val (.int i1), .val (.ref a1), .unset, .unset, .unset, .unset, .unset] [(.int (2 : Int32)), (.int (11 : Int32)), (.ref a10), (.ref a10)])
  obtain ⟨T35, h35, X35, e35, W35, st35⟩ := stI X33 hx hZ e33 A33 (j := (11 : Int32)) (own_in (n := 16) rfl (by decide)) (g := (mkF m 86 #[.val (.int i0), .val (.int i1), .val (.ref a1), .unset, .unset, .unset, .unset, .unset] [(.int (2 : Int32)), (.int (11 : Int32)), (.ref a10), (.ref a10)])) rfl rfl (hb hby at_86)
  have A35 : Arr Z h35 a10 (own_cell c10 #[(.int (0 : Int32)), (.int (0 : Int32)), (.int (-1 : Int32)), (.int (0 : Int32)), (.int (0 : Int32)), (.int (1 : Int32)), (.int (2 : Int32)), (.int (1 : Int32)), (.int (-1 : Int32)), (.int (2 : Int32)), (.int (2 : Int32)), (.int (2 : Int32)), (.int 0), (.int 0), (.int 0), (.int 0)]) .int := A33.same W35
  have x35 : Ext h0 h35 := own_ext_wr x33 W35 j10
  have N35 := Fr.snoc X35 N33 (Nat.le_trans Z0 j10)
  have A36 := A34.other W35 ne11
  refine own_go st35 ?_
  show own_G p e below _ T35 (mkF m 87 #[.val (.int i0), .val (.int i1), .val (.ref a1), .unset, .unset, .unset, .unset, .unset] [(.ref a10)])
  refine own_go (fun t k => XS.dup X35.here hx rfl (hb hby at_87) rfl rfl k) ?_
  show own_G p e below _ T35 (mkF m 88 #[.val (.int i0), .val (.int i1), .val (.ref a1), .unset, .unset, .unset, .unset, .unset] [(.ref a10), (.ref a10)])
  refine own_go (fun t k => XS.bipush X35.here hx rfl (hb hby at_88) k) ?_
  show own_G p e below _ T35 (mkF m 90 #[.val (.int i0), .val (.int i1), .val (.ref a1), .unset, .unset, .unset, .unset, .unset] [(.int (12 : Int32)), (.ref a10), (.ref a10)])
  refine own_go (fun t k => XS.iconst X35.here hx rfl (hb hby at_90) k) ?_
  show own_G p e below _ T35 (mkF m 91 #[.val (.int i0), .val (.int i1), .val (.ref a1), .unset, .unset, .unset, .unset, .unset] [(.int (0 : Int32)), (.int (12 : Int32)), (.ref a10), (.ref a10)])
  obtain ⟨T37, h37, X37, e37, W37, st37⟩ := stI X35 hx hZ e35 A35 (j := (12 : Int32)) (own_in (n := 16) rfl (by decide)) (g := (mkF m 91 #[.val (.int i0), .val (.int i1), .val (.ref a1), .unset, .unset, .unset, .unset, .unset] [(.int (0 : Int32)), (.int (12 : Int32)), (.ref a10), (.ref a10)])) rfl rfl (hb hby at_91)
  have A37 : Arr Z h37 a10 (own_cell c10 #[(.int (0 : Int32)), (.int (0 : Int32)), (.int (-1 : Int32)), (.int (0 : Int32)), (.int (0 : Int32)), (.int (1 : Int32)), (.int (2 : Int32)), (.int (1 : Int32)), (.int (-1 : Int32)), (.int (2 : Int32)), (.int (2 : Int32)), (.int (2 : Int32)), (.int (0 : Int32)), (.int 0), (.int 0), (.int 0)]) .int := A35.same W37
  have x37 : Ext h0 h37 := own_ext_wr x35 W37 j10
  have N37 := Fr.snoc X37 N35 (Nat.le_trans Z0 j10)
  have A38 := A36.other W37 ne11
  refine own_go st37 ?_
  show own_G p e below _ T37 (mkF m 92 #[.val (.int i0), .val (.int i1), .val (.ref a1), .unset, .unset, .unset, .unset, .unset] [(.ref a10)])
  refine own_go (fun t k => XS.dup X37.here hx rfl (hb hby at_92) rfl rfl k) ?_
  show own_G p e below _ T37 (mkF m 93 #[.val (.int i0), .val (.int i1), .val (.ref a1), .unset, .unset, .unset, .unset, .unset] [(.ref a10), (.ref a10)])
  refine own_go (fun t k => XS.bipush X37.here hx rfl (hb hby at_93) k) ?_
  show own_G p e below _ T37 (mkF m 95 #[.val (.int i0), .val (.int i1), .val (.ref a1), .unset, .unset, .unset, .unset, .unset] [(.int (13 : Int32)), (.ref a10), (.ref a10)])
  refine own_go (fun t k => XS.iconst X37.here hx rfl (hb hby at_95) k) ?_
  show own_G p e below _ T37 (mkF m 96 #[.val (.int i0), .val (.int i1), .val (.ref a1), .unset, .unset, .unset, .unset, .unset] [(.int (1 : Int32)), (.int (13 : Int32)), (.ref a10), (.ref a10)])
  obtain ⟨T39, h39, X39, e39, W39, st39⟩ := stI X37 hx hZ e37 A37 (j := (13 : Int32)) (own_in (n := 16) rfl (by decide)) (g := (mkF m 96 #[.val (.int i0), .val (.int i1), .val (.ref a1), .unset, .unset, .unset, .unset, .unset] [(.int (1 : Int32)), (.int (13 : Int32)), (.ref a10), (.ref a10)])) rfl rfl (hb hby at_96)
  have A39 : Arr Z h39 a10 (own_cell c10 #[(.int (0 : Int32)), (.int (0 : Int32)), (.int (-1 : Int32)), (.int (0 : Int32)), (.int (0 : Int32)), (.int (1 : Int32)), (.int (2 : Int32)), (.int (1 : Int32)), (.int (-1 : Int32)), (.int (2 : Int32)), (.int (2 : Int32)), (.int (2 : Int32)), (.int (0 : Int32)), (.int (1 : Int32)), (.int 0), (.int 0)]) .int := A37.same W39
  have x39 : Ext h0 h39 := own_ext_wr x37 W39 j10
  have N39 := Fr.snoc X39 N37 (Nat.le_trans Z0 j10)
  have A40 := A38.other W39 ne11
  refine own_go st39 ?_
  show own_G p e below _ T39 (mkF m 97 #[.val (.int i0), .val (.int i1), .val (.ref a1), .unset, .unset, .unset, .unset, .unset] [(.ref a10)])
  refine own_go (fun t k => XS.dup X39.here hx rfl (hb hby at_97) rfl rfl k) ?_
  show own_G p e below _ T39 (mkF m 98 #[.val (.int i0), .val (.int i1), .val (.ref a1), .unset, .unset, .unset, .unset, .unset] [(.ref a10), (.ref a10)])
  refine own_go (fun t k => XS.bipush X39.here hx rfl (hb hby at_98) k) ?_
  show own_G p e below _ T39 (mkF m 100 #[.val (.int i0), .val (.int i1), .val (.ref a1), .unset, .unset, .unset, .unset, .unset] [(.int (14 : Int32)), (.ref a10), (.ref a10)])
  refine own_go (fun t k => XS.iconst X39.here hx rfl (hb hby at_100) k) ?_
  show own_G p e below _ T39 (mkF m 101 #[.val (.int i0), .val (.int i1), .val (.ref a1), .unset, .unset, .unset, .unset, .unset] [(.int (2 : Int32)), (.int (14 : Int32)), (.ref a10), (.ref a10)])
  obtain ⟨T41, h41, X41, e41, W41, st41⟩ := stI X39 hx hZ e39 A39 (j := (14 : Int32)) (own_in (n := 16) rfl (by decide)) (g := (mkF m 101 #[.val (.int i0), .val (.int i1), .val (.ref a1), .unset, .unset, .unset, .unset, .unset] [(.int (2 : Int32)), (.int (14 : Int32)), (.ref a10), (.ref a10)])) rfl rfl (hb hby at_101)
  have A41 : Arr Z h41 a10 (own_cell c10 #[(.int (0 : Int32)), (.int (0 : Int32)), (.int (-1 : Int32)), (.int (0 : Int32)), (.int (0 : Int32)), (.int (1 : Int32)), (.int (2 : Int32)), (.int (1 : Int32)), (.int (-1 : Int32)), (.int (2 : Int32)), (.int (2 : Int32)), (.int (2 : Int32)), (.int (0 : Int32)), (.int (1 : Int32)), (.int (2 : Int32)), (.int 0)]) .int := A39.same W41
  have x41 : Ext h0 h41 := own_ext_wr x39 W41 j10
  have N41 := Fr.snoc X41 N39 (Nat.le_trans Z0 j10)
  have A42 := A40.other W41 ne11
  refine own_go st41 ?_
  show own_G p e below _ T41 (mkF m 102 #[.val (.int i0), .val (.int i1), .val (.ref a1), .unset, .unset, .unset, .unset, .unset] [(.ref a10)])
  refine own_go (fun t k => XS.dup X41.here hx rfl (hb hby at_102) rfl rfl k) ?_
  show own_G p e below _ T41 (mkF m 103 #[.val (.int i0), .val (.int i1), .val (.ref a1), .unset, .unset, .unset, .unset, .unset] [(.ref a10), (.ref a10)])
  refine own_go (fun t k => XS.bipush X41.here hx rfl (hb hby at_103) k) ?_
  show own_G p e below _ T41 (mkF m 105 #[.val (.int i0), .val (.int i1), .val (.ref a1), .unset, .unset, .unset, .unset, .unset] [(.int (15 : Int32)), (.ref a10), (.ref a10)])
  refine own_go (fun t k => XS.iconst X41.here hx rfl (hb hby at_105) k) ?_
  show own_G p e below _ T41 (mkF m 106 #[.val (.int i0), .val (.int i1), .val (.ref a1), .unset, .unset, .unset, .unset, .unset] [(.int (3 : Int32)), (.int (15 : Int32)), (.ref a10), (.ref a10)])
  obtain ⟨T43, h43, X43, e43, W43, st43⟩ := stI X41 hx hZ e41 A41 (j := (15 : Int32)) (own_in (n := 16) rfl (by decide)) (g := (mkF m 106 #[.val (.int i0), .val (.int i1), .val (.ref a1), .unset, .unset, .unset, .unset, .unset] [(.int (3 : Int32)), (.int (15 : Int32)), (.ref a10), (.ref a10)])) rfl rfl (hb hby at_106)
  have A43 : Arr Z h43 a10 (own_cell c10 #[(.int (0 : Int32)), (.int (0 : Int32)), (.int (-1 : Int32)), (.int (0 : Int32)), (.int (0 : Int32)), (.int (1 : Int32)), (.int (2 : Int32)), (.int (1 : Int32)), (.int (-1 : Int32)), (.int (2 : Int32)), (.int (2 : Int32)), (.int (2 : Int32)), (.int (0 : Int32)), (.int (1 : Int32)), (.int (2 : Int32)), (.int (3 : Int32))]) .int := A41.same W43
  have x43 : Ext h0 h43 := own_ext_wr x41 W43 j10
  have N43 := Fr.snoc X43 N41 (Nat.le_trans Z0 j10)
  have A44 := A42.other W43 ne11
  refine own_go st43 ?_
  show own_G p e below _ T43 (mkF m 107 #[.val (.int i0), .val (.int i1), .val (.ref a1), .unset, .unset, .unset, .unset, .unset] [(.ref a10)])
  refine own_go (fun t k => XS.astoreN X43.here hx rfl (hb hby at_107) rfl rfl (l' := #[.val (.int i0), .val (.int i1), .val (.ref a1), .val (.ref a10), .unset, .unset, .unset, .unset]) rfl k) ?_
  show own_G p e below _ T43 (mkF m 108 #[.val (.int i0), .val (.int i1), .val (.ref a1), .val (.ref a10), .unset, .unset, .unset, .unset] [])
  refine own_go (fun t k => XS.iloadN X43.here hx rfl (hb hby at_108) rfl k) ?_
  show own_G p e below _ T43 (mkF m 109 #[.val (.int i0), .val (.int i1), .val (.ref a1), .val (.ref a10), .unset, .unset, .unset, .unset] [(.int i0)])
  refine own_go (fun t k => XS.iconst X43.here hx rfl (hb hby at_109) k) ?_
  show own_G p e below _ T43 (mkF m 110 #[.val (.int i0), .val (.int i1), .val (.ref a1), .val (.ref a10), .unset, .unset, .unset, .unset] [(.int (3 : Int32)), (.int i0)])
  refine own_go (fun t k => XS.iand X43.here hx rfl (hb hby at_110) rfl k) ?_
  show own_G p e below _ T43 (mkF m 111 #[.val (.int i0), .val (.int i1), .val (.ref a1), .val (.ref a10), .unset, .unset, .unset, .unset] [(.int (i0 &&& (3 : Int32)))])
  refine own_go (fun t k => XS.istore X43.here hx rfl (hb hby at_111) rfl (l' := #[.val (.int i0), .val (.int i1), .val (.ref a1), .val (.ref a10), .val (.int (i0 &&& (3 : Int32))), .unset, .unset, .unset]) rfl k) ?_
  show own_G p e below _ T43 (mkF m 113 #[.val (.int i0), .val (.int i1), .val (.ref a1), .val (.ref a10), .val (.int (i0 &&& (3 : Int32))), .unset, .unset, .unset] [])
  refine own_go (fun t k => XS.iloadN X43.here hx rfl (hb hby at_113) rfl k) ?_
  show own_G p e below _ T43 (mkF m 114 #[.val (.int i0), .val (.int i1), .val (.ref a1), .val (.ref a10), .val (.int (i0 &&& (3 : Int32))), .unset, .unset, .unset] [(.int i1)])
  refine own_go (fun t k => XS.iconst X43.here hx rfl (hb hby at_114) k) ?_
  show own_G p e below _ T43 (mkF m 115 #[.val (.int i0), .val (.int i1), .val (.ref a1), .val (.ref a10), .val (.int (i0 &&& (3 : Int32))), .unset, .unset, .unset] [(.int (3 : Int32)), (.int i1)])
  refine own_go (fun t k => XS.iand X43.here hx rfl (hb hby at_115) rfl k) ?_
  show own_G p e below _ T43 (mkF m 116 #[.val (.int i0), .val (.int i1), .val (.ref a1), .val (.ref a10), .val (.int (i0 &&& (3 : Int32))), .unset, .unset, .unset] [(.int (i1 &&& (3 : Int32)))])
  refine own_go (fun t k => XS.istore X43.here hx rfl (hb hby at_116) rfl (l' := #[.val (.int i0), .val (.int i1), .val (.ref a1), .val (.ref a10), .val (.int (i0 &&& (3 : Int32))), .val (.int (i1 &&& (3 : Int32))), .unset, .unset]) rfl k) ?_
  show own_G p e below _ T43 (mkF m 118 #[.val (.int i0), .val (.int i1), .val (.ref a1), .val (.ref a10), .val (.int (i0 &&& (3 : Int32))), .val (.int (i1 &&& (3 : Int32))), .unset, .unset] [])
  rcases hk with hk45 | hk45 | hk45 | hk45
  · rw [hk45]
    show own_G p e below _ T43 (mkF m 118 #[.val (.int i0), .val (.int i1), .val (.ref a1), .val (.ref a10), .val (.int (0 : Int32)), .val (.int (i1 &&& (3 : Int32))), .unset, .unset] [])
    refine own_go (fun t k => XS.aloadN X43.here hx rfl (hb hby at_118) rfl rfl k) ?_
    show own_G p e below _ T43 (mkF m 119 #[.val (.int i0), .val (.int i1), .val (.ref a1), .val (.ref a10), .val (.int (0 : Int32)), .val (.int (i1 &&& (3 : Int32))), .unset, .unset] [(.ref a1)])
    rcases hf with hk46 | hk46 | hk46 | hk46
    · rw [hk46]
      show own_G p e below _ T43 (mkF m 119 #[.val (.int i0), .val (.int i1), .val (.ref a1), .val (.ref a10), .val (.int (0 : Int32)), .val (.int (0 : Int32)), .unset, .unset] [(.ref a1)])
      refine own_go (fun t k => XS.iload X43.here hx rfl (hb hby at_119) rfl k) ?_
      show own_G p e below _ T43 (mkF m 121 #[.val (.int i0), .val (.int i1), .val (.ref a1), .val (.ref a10), .val (.int (0 : Int32)), .val (.int (0 : Int32)), .unset, .unset] [(.int (0 : Int32)), (.ref a1)])
      refine own_go (X43.aaload hx (j := (0 : Int32)) (v := (.ref a_NOT_NULL)) (by rw [e43]; exact A44.1) (State.isArrayOf_alike hZ.alike A44.2.1) rfl A44.2.2 (own_in (n := 4) rfl (by decide)) rfl (g := (mkF m 121 #[.val (.int i0), .val (.int i1), .val (.ref a1), .val (.ref a10), .val (.int (0 : Int32)), .val (.int (0 : Int32)), .unset, .unset] [(.int (0 : Int32)), (.ref a1)])) rfl rfl (hb hby at_121)) ?_
      show own_G p e below _ T43 (mkF m 122 #[.val (.int i0), .val (.int i1), .val (.ref a1), .val (.ref a10), .val (.int (0 : Int32)), .val (.int (0 : Int32)), .unset, .unset] [(.ref a_NOT_NULL)])
      refine own_go (fun t k => XS.aloadN X43.here hx rfl (hb hby at_122) rfl rfl k) ?_
      show own_G p e below _ T43 (mkF m 123 #[.val (.int i0), .val (.int i1), .val (.ref a1), .val (.ref a10), .val (.int (0 : Int32)), .val (.int (0 : Int32)), .unset, .unset] [(.ref a1), (.ref a_NOT_NULL)])
      refine own_go (fun t k => XS.iload X43.here hx rfl (hb hby at_123) rfl k) ?_
      show own_G p e below _ T43 (mkF m 125 #[.val (.int i0), .val (.int i1), .val (.ref a1), .val (.ref a10), .val (.int (0 : Int32)), .val (.int (0 : Int32)), .unset, .unset] [(.int (0 : Int32)), (.ref a1), (.ref a_NOT_NULL)])
      refine own_go (X43.aaload hx (j := (0 : Int32)) (v := (.ref a_NOT_NULL)) (by rw [e43]; exact A44.1) (State.isArrayOf_alike hZ.alike A44.2.1) rfl A44.2.2 (own_in (n := 4) rfl (by decide)) rfl (g := (mkF m 125 #[.val (.int i0), .val (.int i1), .val (.ref a1), .val (.ref a10), .val (.int (0 : Int32)), .val (.int (0 : Int32)), .unset, .unset] [(.int (0 : Int32)), (.ref a1), (.ref a_NOT_NULL)])) rfl rfl (hb hby at_125)) ?_
      show own_G p e below _ T43 (mkF m 126 #[.val (.int i0), .val (.int i1), .val (.ref a1), .val (.ref a10), .val (.int (0 : Int32)), .val (.int (0 : Int32)), .unset, .unset] [(.ref a_NOT_NULL), (.ref a_NOT_NULL)])
      obtain ⟨T47, L47, v47, X47, ⟨rfl, rfl, q47⟩, st47⟩ := own_callV X43 hx hZ (y := (⟨"com/example/nullsight/nullsight/check/Nullness", "meet", "(Lcom/example/nullsight/nullsight/check/Nullness;)Lcom/example/nullsight/nullsight/check/Nullness;"⟩ : MethodName)) (z := (⟨"com/example/nullsight/nullsight/check/Nullness", "meet", "(Lcom/example/nullsight/nullsight/check/Nullness;)Lcom/example/nullsight/nullsight/check/Nullness;"⟩ : MethodName)) hown (hw _ (List.mem_of_getElem? (i := 13) rfl)) (hw _ (List.mem_of_getElem? (i := 14) rfl)) (hw _ (List.mem_of_getElem? (i := 16) rfl)) (hw _ (List.mem_of_getElem? (i := 16) rfl)) (hw _ (List.mem_of_getElem? (i := 15) rfl)) (hw _ (List.mem_of_getElem? (i := 17) rfl)) (hw _ (List.mem_of_getElem? (i := 3) rfl)) (notFace_of_selects (args := #[]) (mvT hZ (hw _ (List.mem_of_getElem? (i := 16) rfl)))) (by decide) (c_meet l Z a0 hw a_NOT_NULL a_UNKNOWN a_NULL a_NULLABLE a_NOT_NULL a_NOT_NULL h43 (own_B_ext x43 B) ) e43 (E_NOT_NULL.ext x43) (argsL := [(.ref a_NOT_NULL)]) (rest := []) (g := (mkF m 126 #[.val (.int i0), .val (.int i1), .val (.ref a1), .val (.ref a10), .val (.int (0 : Int32)), .val (.int (0 : Int32)), .unset, .unset] [(.ref a_NOT_NULL), (.ref a_NOT_NULL)])) rfl (by rw [hml]; rfl) (ps := [(.object "com/example/nullsight/nullsight/check/Nullness")]) (r := (some (.object "com/example/nullsight/nullsight/check/Nullness"))) (by decide +kernel) rfl rfl (W := 0) (by show 2 * 0 + _ ≤ _; exact Nat.le_of_eq rfl) (hb hby at_126) (by decide) (by decide) (by decide) (by decide)
      have N47 := Fr.app N43 (Fr.nil n0)
      refine own_go st47 ?_
      show own_G p e below _ T47 (mkF m 129 #[.val (.int i0), .val (.int i1), .val (.ref a1), .val (.ref a10), .val (.int (0 : Int32)), .val (.int (0 : Int32)), .unset, .unset] [(own_meet a_NOT_NULL a_UNKNOWN a_NULL a_NULLABLE a_NOT_NULL a_NOT_NULL)])
      have r47 : (own_meet a_NOT_NULL a_UNKNOWN a_NULL a_NULLABLE a_NOT_NULL a_NOT_NULL) = (.ref a_NOT_NULL) := by unfold own_meet; rw [if_pos (rfl : a_NOT_NULL = a_NOT_NULL), if_pos (rfl : a_NOT_NULL = a_NOT_NULL), if_pos (rfl : a_NOT_NULL = a_NOT_NULL)]
      rw [r47]
      show own_G p e below _ T47 (mkF m 129 #[.val (.int i0), .val (.int i1), .val (.ref a1), .val (.ref a10), .val (.int (0 : Int32)), .val (.int (0 : Int32)), .unset, .unset] [(.ref a_NOT_NULL)])
      refine own_go (fun t k => XS.astore X47.here hx rfl (hb hby at_129) rfl rfl (l' := #[.val (.int i0), .val (.int i1), .val (.ref a1), .val (.ref a10), .val (.int (0 : Int32)), .val (.int (0 : Int32)), .val (.ref a_NOT_NULL), .unset]) rfl k) ?_
      show own_G p e below _ T47 (mkF m 131 #[.val (.int i0), .val (.int i1), .val (.ref a1), .val (.ref a10), .val (.int (0 : Int32)), .val (.int (0 : Int32)), .val (.ref a_NOT_NULL), .unset] [])
      refine own_go (fun t k => XS.aloadN X47.here hx rfl (hb hby at_131) rfl rfl k) ?_
      show own_G p e below _ T47 (mkF m 132 #[.val (.int i0), .val (.int i1), .val (.ref a1), .val (.ref a10), .val (.int (0 : Int32)), .val (.int (0 : Int32)), .val (.ref a_NOT_NULL), .unset] [(.ref a10)])
      refine own_go (fun t k => XS.iload X47.here hx rfl (hb hby at_132) rfl k) ?_
      show own_G p e below _ T47 (mkF m 134 #[.val (.int i0), .val (.int i1), .val (.ref a1), .val (.ref a10), .val (.int (0 : Int32)), .val (.int (0 : Int32)), .val (.ref a_NOT_NULL), .unset] [(.int (0 : Int32)), (.ref a10)])
      refine own_go (fun t k => XS.iconst X47.here hx rfl (hb hby at_134) k) ?_
      show own_G p e below _ T47 (mkF m 135 #[.val (.int i0), .val (.int i1), .val (.ref a1), .val (.ref a10), .val (.int (0 : Int32)), .val (.int (0 : Int32)), .val (.ref a_NOT_NULL), .unset] [(.int (4 : Int32)), (.int (0 : Int32)), (.ref a10)])
      refine own_go (fun t k => XS.imul X47.here hx rfl (hb hby at_135) rfl k) ?_
      show own_G p e below _ T47 (mkF m 136 #[.val (.int i0), .val (.int i1), .val (.ref a1), .val (.ref a10), .val (.int (0 : Int32)), .val (.int (0 : Int32)), .val (.ref a_NOT_NULL), .unset] [(.int (0 : Int32)), (.ref a10)])
      refine own_go (fun t k => XS.iload X47.here hx rfl (hb hby at_136) rfl k) ?_
      show own_G p e below _ T47 (mkF m 138 #[.val (.int i0), .val (.int i1), .val (.ref a1), .val (.ref a10), .val (.int (0 : Int32)), .val (.int (0 : Int32)), .val (.ref a_NOT_NULL), .unset] [(.int (0 : Int32)), (.int (0 : Int32)), (.ref a10)])
      refine own_go (fun t k => XS.iadd X47.here hx rfl (hb hby at_138) rfl k) ?_
      show own_G p e below _ T47 (mkF m 139 #[.val (.int i0), .val (.int i1), .val (.ref a1), .val (.ref a10), .val (.int (0 : Int32)), .val (.int (0 : Int32)), .val (.ref a_NOT_NULL), .unset] [(.int (0 : Int32)), (.ref a10)])
      refine own_go (X47.iaload hx (j := (0 : Int32)) (v := (.int (0 : Int32))) (by rw [q47]; exact A43.1) (State.isArrayOf_alike hZ.alike A43.2.1) A43.2.2 (own_in (n := 16) rfl (by decide)) rfl (g := (mkF m 139 #[.val (.int i0), .val (.int i1), .val (.ref a1), .val (.ref a10), .val (.int (0 : Int32)), .val (.int (0 : Int32)), .val (.ref a_NOT_NULL), .unset] [(.int (0 : Int32)), (.ref a10)])) rfl rfl (hb hby at_139)) ?_
      show own_G p e below _ T47 (mkF m 140 #[.val (.int i0), .val (.int i1), .val (.ref a1), .val (.ref a10), .val (.int (0 : Int32)), .val (.int (0 : Int32)), .val (.ref a_NOT_NULL), .unset] [(.int (0 : Int32))])
      refine own_go (fun t k => XS.istore X47.here hx rfl (hb hby at_140) rfl (l' := #[.val (.int i0), .val (.int i1), .val (.ref a1), .val (.ref a10), .val (.int (0 : Int32)), .val (.int (0 : Int32)), .val (.ref a_NOT_NULL), .val (.int (0 : Int32))]) rfl k) ?_
      show own_G p e below _ T47 (mkF m 142 #[.val (.int i0), .val (.int i1), .val (.ref a1), .val (.ref a10), .val (.int (0 : Int32)), .val (.int (0 : Int32)), .val (.ref a_NOT_NULL), .val (.int (0 : Int32))] [])
      refine own_go (fun t k => XS.iload X47.here hx rfl (hb hby at_142) rfl k) ?_
      show own_G p e below _ T47 (mkF m 144 #[.val (.int i0), .val (.int i1), .val (.ref a1), .val (.ref a10), .val (.int (0 : Int32)), .val (.int (0 : Int32)), .val (.ref a_NOT_NULL), .val (.int (0 : Int32))] [(.int (0 : Int32))])
      refine own_go (fun t k => XS.ifYes X47.here hx rfl (pc0 := 144) (pc' := 158) rfl (hb hby at_144) rfl (by decide) (by decide) (by decide) k) ?_
      show own_G p e below _ T47 (mkF m 158 #[.val (.int i0), .val (.int i1), .val (.ref a1), .val (.ref a10), .val (.int (0 : Int32)), .val (.int (0 : Int32)), .val (.ref a_NOT_NULL), .val (.int (0 : Int32))] [])
      refine own_go (fun t k => XS.aload X47.here hx rfl (hb hby at_158) rfl rfl k) ?_
      show own_G p e below _ T47 (mkF m 160 #[.val (.int i0), .val (.int i1), .val (.ref a1), .val (.ref a10), .val (.int (0 : Int32)), .val (.int (0 : Int32)), .val (.ref a_NOT_NULL), .val (.int (0 : Int32))] [(.ref a_NOT_NULL)])
      refine own_go (fun t k => XS.aloadN X47.here hx rfl (hb hby at_160) rfl rfl k) ?_
      show own_G p e below _ T47 (mkF m 161 #[.val (.int i0), .val (.int i1), .val (.ref a1), .val (.ref a10), .val (.int (0 : Int32)), .val (.int (0 : Int32)), .val (.ref a_NOT_NULL), .val (.int (0 : Int32))] [(.ref a1), (.ref a_NOT_NULL)])
      refine own_go (fun t k => XS.iload X47.here hx rfl (hb hby at_161) rfl k) ?_
      show own_G p e below _ T47 (mkF m 163 #[.val (.int i0), .val (.int i1), .val (.ref a1), .val (.ref a10), .val (.int (0 : Int32)), .val (.int (0 : Int32)), .val (.ref a_NOT_NULL), .val (.int (0 : Int32))] [(.int (0 : Int32)), (.ref a1), (.ref a_NOT_NULL)])
      refine own_go (X47.aaload hx (j := (0 : Int32)) (v := (.ref a_NOT_NULL)) (by rw [q47]; exact A44.1) (State.isArrayOf_alike hZ.alike A44.2.1) rfl A44.2.2 (own_in (n := 4) rfl (by decide)) rfl (g := (mkF m 163 #[.val (.int i0), .val (.int i1), .val (.ref a1), .val (.ref a10), .val (.int (0 : Int32)), .val (.int (0 : Int32)), .val (.ref a_NOT_NULL), .val (.int (0 : Int32))] [(.int (0 : Int32)), (.ref a1), (.ref a_NOT_NULL)])) rfl rfl (hb hby at_163)) ?_
      show own_G p e below _ T47 (mkF m 164 #[.val (.int i0), .val (.int i1), .val (.ref a1), .val (.ref a10), .val (.int (0 : Int32)), .val (.int (0 : Int32)), .val (.ref a_NOT_NULL), .val (.int (0 : Int32))] [(.ref a_NOT_NULL), (.ref a_NOT_NULL)])
      refine own_go (fun t k => Jvm.Free.XT.acmpNo X47.here hx rfl (hb hby at_164) rfl rfl rfl (own_acnF rfl) k) ?_
      show own_G p e below _ T47 (mkF m 167 #[.val (.int i0), .val (.int i1), .val (.ref a1), .val (.ref a10), .val (.int (0 : Int32)), .val (.int (0 : Int32)), .val (.ref a_NOT_NULL), .val (.int (0 : Int32))] [])
      refine own_go (fun t k => XS.iconst X47.here hx rfl (hb hby at_167) k) ?_
      show own_G p e below _ T47 (mkF m 168 #[.val (.int i0), .val (.int i1), .val (.ref a1), .val (.ref a10), .val (.int (0 : Int32)), .val (.int (0 : Int32)), .val (.ref a_NOT_NULL), .val (.int (0 : Int32))] [(.int (1 : Int32))])
      refine own_go (fun t k => XS.goto X47.here hx rfl (pc0 := 168) (pc' := 172) rfl (hb hby at_168) (by decide) (by decide) k) ?_
      show own_G p e below _ T47 (mkF m 172 #[.val (.int i0), .val (.int i1), .val (.ref a1), .val (.ref a10), .val (.int (0 : Int32)), .val (.int (0 : Int32)), .val (.ref a_NOT_NULL), .val (.int (0 : Int32))] [(.int (1 : Int32))])
      exact own_retN X47 hx hlk hret (by simp) (hb hby at_172) (by decide) (by decide) ⟨rfl, N47⟩
    · rw [hk46]
      show own_G p e below _ T43 (mkF m 119 #[.val (.int i0), .val (.int i1), .val (.ref a1), .val (.ref a10), .val (.int (0 : Int32)), .val (.int (1 : Int32)), .unset, .unset] [(.ref a1)])
      refine own_go (fun t k => XS.iload X43.here hx rfl (hb hby at_119) rfl k) ?_
      show own_G p e below _ T43 (mkF m 121 #[.val (.int i0), .val (.int i1), .val (.ref a1), .val (.ref a10), .val (.int (0 : Int32)), .val (.int (1 : Int32)), .unset, .unset] [(.int (0 : Int32)), (.ref a1)])
      refine own_go (X43.aaload hx (j := (0 : Int32)) (v := (.ref a_NOT_NULL)) (by rw [e43]; exact A44.1) (State.isArrayOf_alike hZ.alike A44.2.1) rfl A44.2.2 (own_in (n := 4) rfl (by decide)) rfl (g := (mkF m 121 #[.val (.int i0), .val (.int i1), .val (.ref a1), .val (.ref a10), .val (.int (0 : Int32)), .val (.int (1 : Int32)), .unset, .unset] [(.int (0 : Int32)), (.ref a1)])) rfl rfl (hb hby at_121)) ?_
      show own_G p e below _ T43 (mkF m 122 #[.val (.int i0), .val (.int i1), .val (.ref a1), .val (.ref a10), .val (.int (0 : Int32)), .val (.int (1 : Int32)), .unset, .unset] [(.ref a_NOT_NULL)])
      refine own_go (fun t k => XS.aloadN X43.here hx rfl (hb hby at_122) rfl rfl k) ?_
      show own_G p e below _ T43 (mkF m 123 #[.val (.int i0), .val (.int i1), .val (.ref a1), .val (.ref a10), .val (.int (0 : Int32)), .val (.int (1 : Int32)), .unset, .unset] [(.ref a1), (.ref a_NOT_NULL)])
      refine own_go (fun t k => XS.iload X43.here hx rfl (hb hby at_123) rfl k) ?_
      show own_G p e below _ T43 (mkF m 125 #[.val (.int i0), .val (.int i1), .val (.ref a1), .val (.ref a10), .val (.int (0 : Int32)), .val (.int (1 : Int32)), .unset, .unset] [(.int (1 : Int32)), (.ref a1), (.ref a_NOT_NULL)])
      refine own_go (X43.aaload hx (j := (1 : Int32)) (v := (.ref a_UNKNOWN)) (by rw [e43]; exact A44.1) (State.isArrayOf_alike hZ.alike A44.2.1) rfl A44.2.2 (own_in (n := 4) rfl (by decide)) rfl (g := (mkF m 125 #[.val (.int i0), .val (.int i1), .val (.ref a1), .val (.ref a10), .val (.int (0 : Int32)), .val (.int (1 : Int32)), .unset, .unset] [(.int (1 : Int32)), (.ref a1), (.ref a_NOT_NULL)])) rfl rfl (hb hby at_125)) ?_
      show own_G p e below _ T43 (mkF m 126 #[.val (.int i0), .val (.int i1), .val (.ref a1), .val (.ref a10), .val (.int (0 : Int32)), .val (.int (1 : Int32)), .unset, .unset] [(.ref a_UNKNOWN), (.ref a_NOT_NULL)])
      obtain ⟨T48, L48, v48, X48, ⟨rfl, rfl, q48⟩, st48⟩ := own_callV X43 hx hZ (y := (⟨"com/example/nullsight/nullsight/check/Nullness", "meet", "(Lcom/example/nullsight/nullsight/check/Nullness;)Lcom/example/nullsight/nullsight/check/Nullness;"⟩ : MethodName)) (z := (⟨"com/example/nullsight/nullsight/check/Nullness", "meet", "(Lcom/example/nullsight/nullsight/check/Nullness;)Lcom/example/nullsight/nullsight/check/Nullness;"⟩ : MethodName)) hown (hw _ (List.mem_of_getElem? (i := 13) rfl)) (hw _ (List.mem_of_getElem? (i := 14) rfl)) (hw _ (List.mem_of_getElem? (i := 16) rfl)) (hw _ (List.mem_of_getElem? (i := 16) rfl)) (hw _ (List.mem_of_getElem? (i := 15) rfl)) (hw _ (List.mem_of_getElem? (i := 17) rfl)) (hw _ (List.mem_of_getElem? (i := 3) rfl)) (notFace_of_selects (args := #[]) (mvT hZ (hw _ (List.mem_of_getElem? (i := 16) rfl)))) (by decide) (c_meet l Z a0 hw a_NOT_NULL a_UNKNOWN a_NULL a_NULLABLE a_NOT_NULL a_UNKNOWN h43 (own_B_ext x43 B) ) e43 (E_NOT_NULL.ext x43) (argsL := [(.ref a_UNKNOWN)]) (rest := []) (g := (mkF m 126 #[.val (.int i0), .val (.int i1), .val (.ref a1), .val (.ref a10), .val (.int (0 : Int32)), .val (.int (1 : Int32)), .unset, .unset] [(.ref a_UNKNOWN), (.ref a_NOT_NULL)])) rfl (by rw [hml]; rfl) (ps := [(.object "com/example/nullsight/nullsight/check/Nullness")]) (r := (some (.object "com/example/nullsight/nullsight/check/Nullness"))) (by decide +kernel) rfl rfl (W := 0) (by show 2 * 0 + _ ≤ _; exact Nat.le_of_eq rfl) (hb hby at_126) (by decide) (by decide) (by decide) (by decide)
      have N48 := Fr.app N43 (Fr.nil n0)
      refine own_go st48 ?_
      show own_G p e below _ T48 (mkF m 129 #[.val (.int i0), .val (.int i1), .val (.ref a1), .val (.ref a10), .val (.int (0 : Int32)), .val (.int (1 : Int32)), .unset, .unset] [(own_meet a_NOT_NULL a_UNKNOWN a_NULL a_NULLABLE a_NOT_NULL a_UNKNOWN)])
      have r48 : (own_meet a_NOT_NULL a_UNKNOWN a_NULL a_NULLABLE a_NOT_NULL a_UNKNOWN) = (.ref a_NOT_NULL) := by unfold own_meet; rw [if_pos (rfl : a_NOT_NULL = a_NOT_NULL), if_neg (Fld.ne F_UNKNOWN_ordinal F_NOT_NULL_ordinal (own_neV (by decide))), if_neg (Fld.ne F_UNKNOWN_ordinal F_NULL_ordinal (own_neV (by decide))), if_neg (Fld.ne F_NOT_NULL_ordinal F_UNKNOWN_ordinal (own_neV (by decide)))]
      rw [r48]
      show own_G p e below _ T48 (mkF m 129 #[.val (.int i0), .val (.int i1), .val (.ref a1), .val (.ref a10), .val (.int (0 : Int32)), .val (.int (1 : Int32)), .unset, .unset] [(.ref a_NOT_NULL)])
      refine own_go (fun t k => XS.astore X48.here hx rfl (hb hby at_129) rfl rfl (l' := #[.val (.int i0), .val (.int i1), .val (.ref a1), .val (.ref a10), .val (.int (0 : Int32)), .val (.int (1 : Int32)), .val (.ref a_NOT_NULL), .unset]) rfl k) ?_
      show own_G p e below _ T48 (mkF m 131 #[.val (.int i0), .val (.int i1), .val (.ref a1), .val (.ref a10), .val (.int (0 : Int32)), .val (.int (1 : Int32)), .val (.ref a_NOT_NULL), .unset] [])
      refine own_go (fun t k => XS.aloadN X48.here hx rfl (hb hby at_131) rfl rfl k) ?_
      show own_G p e below _ T48 (mkF m 132 #[.val (.int i0), .val (.int i1), .val (.ref a1), .val (.ref a10), .val (.int (0 : Int32)), .val (.int (1 : Int32)), .val (.ref a_NOT_NULL), .unset] [(.ref a10)])
      refine own_go (fun t k => XS.iload X48.here hx rfl (hb hby at_132) rfl k) ?_
      show own_G p e below _ T48 (mkF m 134 #[.val (.int i0), .val (.int i1), .val (.ref a1), .val (.ref a10), .val (.int (0 : Int32)), .val (.int (1 : Int32)), .val (.ref a_NOT_NULL), .unset] [(.int (0 : Int32)), (.ref a10)])
      refine own_go (fun t k => XS.iconst X48.here hx rfl (hb hby at_134) k) ?_
      show own_G p e below _ T48 (mkF m 135 #[.val (.int i0), .val (.int i1), .val (.ref a1), .val (.ref a10), .val (.int (0 : Int32)), .val (.int (1 : Int32)), .val (.ref a_NOT_NULL), .unset] [(.int (4 : Int32)), (.int (0 : Int32)), (.ref a10)])
      refine own_go (fun t k => XS.imul X48.here hx rfl (hb hby at_135) rfl k) ?_
      show own_G p e below _ T48 (mkF m 136 #[.val (.int i0), .val (.int i1), .val (.ref a1), .val (.ref a10), .val (.int (0 : Int32)), .val (.int (1 : Int32)), .val (.ref a_NOT_NULL), .unset] [(.int (0 : Int32)), (.ref a10)])
      refine own_go (fun t k => XS.iload X48.here hx rfl (hb hby at_136) rfl k) ?_
      show own_G p e below _ T48 (mkF m 138 #[.val (.int i0), .val (.int i1), .val (.ref a1), .val (.ref a10), .val (.int (0 : Int32)), .val (.int (1 : Int32)), .val (.ref a_NOT_NULL), .unset] [(.int (1 : Int32)), (.int (0 : Int32)), (.ref a10)])
      refine own_go (fun t k => XS.iadd X48.here hx rfl (hb hby at_138) rfl k) ?_
      show own_G p e below _ T48 (mkF m 139 #[.val (.int i0), .val (.int i1), .val (.ref a1), .val (.ref a10), .val (.int (0 : Int32)), .val (.int (1 : Int32)), .val (.ref a_NOT_NULL), .unset] [(.int (1 : Int32)), (.ref a10)])
      refine own_go (X48.iaload hx (j := (1 : Int32)) (v := (.int (0 : Int32))) (by rw [q48]; exact A43.1) (State.isArrayOf_alike hZ.alike A43.2.1) A43.2.2 (own_in (n := 16) rfl (by decide)) rfl (g := (mkF m 139 #[.val (.int i0), .val (.int i1), .val (.ref a1), .val (.ref a10), .val (.int (0 : Int32)), .val (.int (1 : Int32)), .val (.ref a_NOT_NULL), .unset] [(.int (1 : Int32)), (.ref a10)])) rfl rfl (hb hby at_139)) ?_
      show own_G p e below _ T48 (mkF m 140 #[.val (.int i0), .val (.int i1), .val (.ref a1), .val (.ref a10), .val (.int (0 : Int32)), .val (.int (1 : Int32)), .val (.ref a_NOT_NULL), .unset] [(.int (0 : Int32))])
      refine own_go (fun t k => XS.istore X48.here hx rfl (hb hby at_140) rfl (l' := #[.val (.int i0), .val (.int i1), .val (.ref a1), .val (.ref a10), .val (.int (0 : Int32)), .val (.int (1 : Int32)), .val (.ref a_NOT_NULL), .val (.int (0 : Int32))]) rfl k) ?_
      show own_G p e below _ T48 (mkF m 142 #[.val (.int i0), .val (.int i1), .val (.ref a1), .val (.ref a10), .val (.int (0 : Int32)), .val (.int (1 : Int32)), .val (.ref a_NOT_NULL), .val (.int (0 : Int32))] [])
      refine own_go (fun t k => XS.iload X48.here hx rfl (hb hby at_142) rfl k) ?_
      show own_G p e below _ T48 (mkF m 144 #[.val (.int i0), .val (.int i1), .val (.ref a1), .val (.ref a10), .val (.int (0 : Int32)), .val (.int (1 : Int32)), .val (.ref a_NOT_NULL), .val (.int (0 : Int32))] [(.int (0 : Int32))])
      refine own_go (fun t k => XS.ifYes X48.here hx rfl (pc0 := 144) (pc' := 158) rfl (hb hby at_144) rfl (by decide) (by decide) (by decide) k) ?_
      show own_G p e below _ T48 (mkF m 158 #[.val (.int i0), .val (.int i1), .val (.ref a1), .val (.ref a10), .val (.int (0 : Int32)), .val (.int (1 : Int32)), .val (.ref a_NOT_NULL), .val (.int (0 : Int32))] [])
      refine own_go (fun t k => XS.aload X48.here hx rfl (hb hby at_158) rfl rfl k) ?_
      show own_G p e below _ T48 (mkF m 160 #[.val (.int i0), .val (.int i1), .val (.ref a1), .val (.ref a10), .val (.int (0 : Int32)), .val (.int (1 : Int32)), .val (.ref a_NOT_NULL), .val (.int (0 : Int32))] [(.ref a_NOT_NULL)])
      refine own_go (fun t k => XS.aloadN X48.here hx rfl (hb hby at_160) rfl rfl k) ?_
      show own_G p e below _ T48 (mkF m 161 #[.val (.int i0), .val (.int i1), .val (.ref a1), .val (.ref a10), .val (.int (0 : Int32)), .val (.int (1 : Int32)), .val (.ref a_NOT_NULL), .val (.int (0 : Int32))] [(.ref a1), (.ref a_NOT_NULL)])
      refine own_go (fun t k => XS.iload X48.here hx rfl (hb hby at_161) rfl k) ?_
      show own_G p e below _ T48 (mkF m 163 #[.val (.int i0), .val (.int i1), .val (.ref a1), .val (.ref a10), .val (.int (0 : Int32)), .val (.int (1 : Int32)), .val (.ref a_NOT_NULL), .val (.int (0 : Int32))] [(.int (0 : Int32)), (.ref a1), (.ref a_NOT_NULL)])
      refine own_go (X48.aaload hx (j := (0 : Int32)) (v := (.ref a_NOT_NULL)) (by rw [q48]; exact A44.1) (State.isArrayOf_alike hZ.alike A44.2.1) rfl A44.2.2 (own_in (n := 4) rfl (by decide)) rfl (g := (mkF m 163 #[.val (.int i0), .val (.int i1), .val (.ref a1), .val (.ref a10), .val (.int (0 : Int32)), .val (.int (1 : Int32)), .val (.ref a_NOT_NULL), .val (.int (0 : Int32))] [(.int (0 : Int32)), (.ref a1), (.ref a_NOT_NULL)])) rfl rfl (hb hby at_163)) ?_
      show own_G p e below _ T48 (mkF m 164 #[.val (.int i0), .val (.int i1), .val (.ref a1), .val (.ref a10), .val (.int (0 : Int32)), .val (.int (1 : Int32)), .val (.ref a_NOT_NULL), .val (.int (0 : Int32))] [(.ref a_NOT_NULL), (.ref a_NOT_NULL)])
      refine own_go (fun t k => Jvm.Free.XT.acmpNo X48.here hx rfl (hb hby at_164) rfl rfl rfl (own_acnF rfl) k) ?_
      show own_G p e below _ T48 (mkF m 167 #[.val (.int i0), .val (.int i1), .val (.ref a1), .val (.ref a10), .val (.int (0 : Int32)), .val (.int (1 : Int32)), .val (.ref a_NOT_NULL), .val (.int (0 : Int32))] [])
      refine own_go (fun t k => XS.iconst X48.here hx rfl (hb hby at_167) k) ?_
      show own_G p e below _ T48 (mkF m 168 #[.val (.int i0), .val (.int i1), .val (.ref a1), .val (.ref a10), .val (.int (0 : Int32)), .val (.int (1 : Int32)), .val (.ref a_NOT_NULL), .val (.int (0 : Int32))] [(.int (1 : Int32))])
      refine own_go (fun t k => XS.goto X48.here hx rfl (pc0 := 168) (pc' := 172) rfl (hb hby at_168) (by decide) (by decide) k) ?_
      show own_G p e below _ T48 (mkF m 172 #[.val (.int i0), .val (.int i1), .val (.ref a1), .val (.ref a10), .val (.int (0 : Int32)), .val (.int (1 : Int32)), .val (.ref a_NOT_NULL), .val (.int (0 : Int32))] [(.int (1 : Int32))])
      exact own_retN X48 hx hlk hret (by simp) (hb hby at_172) (by decide) (by decide) ⟨rfl, N48⟩
    · rw [hk46]
      show own_G p e below _ T43 (mkF m 119 #[.val (.int i0), .val (.int i1), .val (.ref a1), .val (.ref a10), .val (.int (0 : Int32)), .val (.int (2 : Int32)), .unset, .unset] [(.ref a1)])
      refine own_go (fun t k => XS.iload X43.here hx rfl (hb hby at_119) rfl k) ?_
      show own_G p e below _ T43 (mkF m 121 #[.val (.int i0), .val (.int i1), .val (.ref a1), .val (.ref a10), .val (.int (0 : Int32)), .val (.int (2 : Int32)), .unset, .unset] [(.int (0 : Int32)), (.ref a1)])
      refine own_go (X43.aaload hx (j := (0 : Int32)) (v := (.ref a_NOT_NULL)) (by rw [e43]; exact A44.1) (State.isArrayOf_alike hZ.alike A44.2.1) rfl A44.2.2 (own_in (n := 4) rfl (by decide)) rfl (g := (mkF m 121 #[.val (.int i0), .val (.int i1), .val (.ref a1), .val (.ref a10), .val (.int (0 : Int32)), .val (.int (2 : Int32)), .unset, .unset] [(.int (0 : Int32)), (.ref a1)])) rfl rfl (hb hby at_121)) ?_
      show own_G p e below _ T43 (mkF m 122 #[.val (.int i0), .val (.int i1), .val (.ref a1), .val (.ref a10), .val (.int (0 : Int32)), .val (.int (2 : Int32)), .unset, .unset] [(.ref a_NOT_NULL)])
      refine own_go (fun t k => XS.aloadN X43.here hx rfl (hb hby at_122) rfl rfl k) ?_
      show own_G p e below _ T43 (mkF m 123 #[.val (.int i0), .val (.int i1), .val (.ref a1), .val (.ref a10), .val (.int (0 : Int32)), .val (.int (2 : Int32)), .unset, .unset] [(.ref a1), (.ref a_NOT_NULL)])
      refine own_go (fun t k => XS.iload X43.here hx rfl (hb hby at_123) rfl k) ?_
      show own_G p e below _ T43 (mkF m 125 #[.val (.int i0), .val (.int i1), .val (.ref a1), .val (.ref a10), .val (.int (0 : Int32)), .val (.int (2 : Int32)), .unset, .unset] [(.int (2 : Int32)), (.ref a1), (.ref a_NOT_NULL)])
      refine own_go (X43.aaload hx (j := (2 : Int32)) (v := (.ref a_NULL)) (by rw [e43]; exact A44.1) (State.isArrayOf_alike hZ.alike A44.2.1) rfl A44.2.2 (own_in (n := 4) rfl (by decide)) rfl (g := (mkF m 125 #[.val (.int i0), .val (.int i1), .val (.ref a1), .val (.ref a10), .val (.int (0 : Int32)), .val (.int (2 : Int32)), .unset, .unset] [(.int (2 : Int32)), (.ref a1), (.ref a_NOT_NULL)])) rfl rfl (hb hby at_125)) ?_
      show own_G p e below _ T43 (mkF m 126 #[.val (.int i0), .val (.int i1), .val (.ref a1), .val (.ref a10), .val (.int (0 : Int32)), .val (.int (2 : Int32)), .unset, .unset] [(.ref a_NULL), (.ref a_NOT_NULL)])
      obtain ⟨T49, L49, v49, X49, ⟨rfl, rfl, q49⟩, st49⟩ := own_callV X43 hx hZ (y := (⟨"com/example/nullsight/nullsight/check/Nullness", "meet", "(Lcom/example/nullsight/nullsight/check/Nullness;)Lcom/example/nullsight/nullsight/check/Nullness;"⟩ : MethodName)) (z := (⟨"com/example/nullsight/nullsight/check/Nullness", "meet", "(Lcom/example/nullsight/nullsight/check/Nullness;)Lcom/example/nullsight/nullsight/check/Nullness;"⟩ : MethodName)) hown (hw _ (List.mem_of_getElem? (i := 13) rfl)) (hw _ (List.mem_of_getElem? (i := 14) rfl)) (hw _ (List.mem_of_getElem? (i := 16) rfl)) (hw _ (List.mem_of_getElem? (i := 16) rfl)) (hw _ (List.mem_of_getElem? (i := 15) rfl)) (hw _ (List.mem_of_getElem? (i := 17) rfl)) (hw _ (List.mem_of_getElem? (i := 3) rfl)) (notFace_of_selects (args := #[]) (mvT hZ (hw _ (List.mem_of_getElem? (i := 16) rfl)))) (by decide) (c_meet l Z a0 hw a_NOT_NULL a_UNKNOWN a_NULL a_NULLABLE a_NOT_NULL a_NULL h43 (own_B_ext x43 B) ) e43 (E_NOT_NULL.ext x43) (argsL := [(.ref a_NULL)]) (rest := []) (g := (mkF m 126 #[.val (.int i0), .val (.int i1), .val (.ref a1), .val (.ref a10), .val (.int (0 : Int32)), .val (.int (2 : Int32)), .unset, .unset] [(.ref a_NULL), (.ref a_NOT_NULL)])) rfl (by rw [hml]; rfl) (ps := [(.object "com/example/nullsight/nullsight/check/Nullness")]) (r := (some (.object "com/example/nullsight/nullsight/check/Nullness"))) (by decide +kernel) rfl rfl (W := 0) (by show 2 * 0 + _ ≤ _; exact Nat.le_of_eq rfl) (hb hby at_126) (by decide) (by decide) (by decide) (by decide)
      have N49 := Fr.app N43 (Fr.nil n0)
      refine own_go st49 ?_
      show own_G p e below _ T49 (mkF m 129 #[.val (.int i0), .val (.int i1), .val (.ref a1), .val (.ref a10), .val (.int (0 : Int32)), .val (.int (2 : Int32)), .unset, .unset] [(own_meet a_NOT_NULL a_UNKNOWN a_NULL a_NULLABLE a_NOT_NULL a_NULL)])
      have r49 : (own_meet a_NOT_NULL a_UNKNOWN a_NULL a_NULLABLE a_NOT_NULL a_NULL) = .null := by unfold own_meet; rw [if_pos (rfl : a_NOT_NULL = a_NOT_NULL), if_neg (Fld.ne F_NULL_ordinal F_NOT_NULL_ordinal (own_neV (by decide))), if_pos (rfl : a_NULL = a_NULL), if_neg (Fld.ne F_NOT_NULL_ordinal F_NULL_ordinal (own_neV (by decide)))]
      rw [r49]
      show own_G p e below _ T49 (mkF m 129 #[.val (.int i0), .val (.int i1), .val (.ref a1), .val (.ref a10), .val (.int (0 : Int32)), .val (.int (2 : Int32)), .unset, .unset] [.null])
      refine own_go (fun t k => XS.astore X49.here hx rfl (hb hby at_129) rfl rfl (l' := #[.val (.int i0), .val (.int i1), .val (.ref a1), .val (.ref a10), .val (.int (0 : Int32)), .val (.int (2 : Int32)), .val .null, .unset]) rfl k) ?_
      show own_G p e below _ T49 (mkF m 131 #[.val (.int i0), .val (.int i1), .val (.ref a1), .val (.ref a10), .val (.int (0 : Int32)), .val (.int (2 : Int32)), .val .null, .unset] [])
      refine own_go (fun t k => XS.aloadN X49.here hx rfl (hb hby at_131) rfl rfl k) ?_
      show own_G p e below _ T49 (mkF m 132 #[.val (.int i0), .val (.int i1), .val (.ref a1), .val (.ref a10), .val (.int (0 : Int32)), .val (.int (2 : Int32)), .val .null, .unset] [(.ref a10)])
      refine own_go (fun t k => XS.iload X49.here hx rfl (hb hby at_132) rfl k) ?_
      show own_G p e below _ T49 (mkF m 134 #[.val (.int i0), .val (.int i1), .val (.ref a1), .val (.ref a10), .val (.int (0 : Int32)), .val (.int (2 : Int32)), .val .null, .unset] [(.int (0 : Int32)), (.ref a10)])
      refine own_go (fun t k => XS.iconst X49.here hx rfl (hb hby at_134) k) ?_
      show own_G p e below _ T49 (mkF m 135 #[.val (.int i0), .val (.int i1), .val (.ref a1), .val (.ref a10), .val (.int (0 : Int32)), .val (.int (2 : Int32)), .val .null, .unset] [(.int (4 : Int32)), (.int (0 : Int32)), (.ref a10)])
      refine own_go (fun t k => XS.imul X49.here hx rfl (hb hby at_135) rfl k) ?_
      show own_G p e below _ T49 (mkF m 136 #[.val (.int i0), .val (.int i1), .val (.ref a1), .val (.ref a10), .val (.int (0 : Int32)), .val (.int (2 : Int32)), .val .null, .unset] [(.int (0 : Int32)), (.ref a10)])
      refine own_go (fun t k => XS.iload X49.here hx rfl (hb hby at_136) rfl k) ?_
      show own_G p e below _ T49 (mkF m 138 #[.val (.int i0), .val (.int i1), .val (.ref a1), .val (.ref a10), .val (.int (0 : Int32)), .val (.int (2 : Int32)), .val .null, .unset] [(.int (2 : Int32)), (.int (0 : Int32)), (.ref a10)])
      refine own_go (fun t k => XS.iadd X49.here hx rfl (hb hby at_138) rfl k) ?_
      show own_G p e below _ T49 (mkF m 139 #[.val (.int i0), .val (.int i1), .val (.ref a1), .val (.ref a10), .val (.int (0 : Int32)), .val (.int (2 : Int32)), .val .null, .unset] [(.int (2 : Int32)), (.ref a10)])
      refine own_go (X49.iaload hx (j := (2 : Int32)) (v := (.int (-1 : Int32))) (by rw [q49]; exact A43.1) (State.isArrayOf_alike hZ.alike A43.2.1) A43.2.2 (own_in (n := 16) rfl (by decide)) rfl (g := (mkF m 139 #[.val (.int i0), .val (.int i1), .val (.ref a1), .val (.ref a10), .val (.int (0 : Int32)), .val (.int (2 : Int32)), .val .null, .unset] [(.int (2 : Int32)), (.ref a10)])) rfl rfl (hb hby at_139)) ?_
      show own_G p e below _ T49 (mkF m 140 #[.val (.int i0), .val (.int i1), .val (.ref a1), .val (.ref a10), .val (.int (0 : Int32)), .val (.int (2 : Int32)), .val .null, .unset] [(.int (-1 : Int32))])
      refine own_go (fun t k => XS.istore X49.here hx rfl (hb hby at_140) rfl (l' := #[.val (.int i0), .val (.int i1), .val (.ref a1), .val (.ref a10), .val (.int (0 : Int32)), .val (.int (2 : Int32)), .val .null, .val (.int (-1 : Int32))]) rfl k) ?_
      show own_G p e below _ T49 (mkF m 142 #[.val (.int i0), .val (.int i1), .val (.ref a1), .val (.ref a10), .val (.int (0 : Int32)), .val (.int (2 : Int32)), .val .null, .val (.int (-1 : Int32))] [])
      refine own_go (fun t k => XS.iload X49.here hx rfl (hb hby at_142) rfl k) ?_
      show own_G p e below _ T49 (mkF m 144 #[.val (.int i0), .val (.int i1), .val (.ref a1), .val (.ref a10), .val (.int (0 : Int32)), .val (.int (2 : Int32)), .val .null, .val (.int (-1 : Int32))] [(.int (-1 : Int32))])
      refine own_go (fun t k => XS.ifNo X49.here hx rfl (hb hby at_144) rfl (by decide) k) ?_
      show own_G p e below _ T49 (mkF m 147 #[.val (.int i0), .val (.int i1), .val (.ref a1), .val (.ref a10), .val (.int (0 : Int32)), .val (.int (2 : Int32)), .val .null, .val (.int (-1 : Int32))] [])
      refine own_go (fun t k => XS.aload X49.here hx rfl (hb hby at_147) rfl rfl k) ?_
      show own_G p e below _ T49 (mkF m 149 #[.val (.int i0), .val (.int i1), .val (.ref a1), .val (.ref a10), .val (.int (0 : Int32)), .val (.int (2 : Int32)), .val .null, .val (.int (-1 : Int32))] [.null])
      refine own_go (fun t k => XT.ifnonnullNo X49.here hx rfl (hb hby at_149) rfl k) ?_
      show own_G p e below _ T49 (mkF m 152 #[.val (.int i0), .val (.int i1), .val (.ref a1), .val (.ref a10), .val (.int (0 : Int32)), .val (.int (2 : Int32)), .val .null, .val (.int (-1 : Int32))] [])
      refine own_go (fun t k => XS.iconst X49.here hx rfl (hb hby at_152) k) ?_
      show own_G p e below _ T49 (mkF m 153 #[.val (.int i0), .val (.int i1), .val (.ref a1), .val (.ref a10), .val (.int (0 : Int32)), .val (.int (2 : Int32)), .val .null, .val (.int (-1 : Int32))] [(.int (1 : Int32))])
      refine own_go (fun t k => XS.goto X49.here hx rfl (pc0 := 153) (pc' := 157) rfl (hb hby at_153) (by decide) (by decide) k) ?_
      show own_G p e below _ T49 (mkF m 157 #[.val (.int i0), .val (.int i1), .val (.ref a1), .val (.ref a10), .val (.int (0 : Int32)), .val (.int (2 : Int32)), .val .null, .val (.int (-1 : Int32))] [(.int (1 : Int32))])
      exact own_retN X49 hx hlk hret (by simp) (hb hby at_157) (by decide) (by decide) ⟨rfl, N49⟩
    · rw [hk46]
      show own_G p e below _ T43 (mkF m 119 #[.val (.int i0), .val (.int i1), .val (.ref a1), .val (.ref a10), .val (.int (0 : Int32)), .val (.int (3 : Int32)), .unset, .unset] [(.ref a1)])
      refine own_go (fun t k => XS.iload X43.here hx rfl (hb hby at_119) rfl k) ?_
      show own_G p e below _ T43 (mkF m 121 #[.val (.int i0), .val (.int i1), .val (.ref a1), .val (.ref a10), .val (.int (0 : Int32)), .val (.int (3 : Int32)), .unset, .unset] [(.int (0 : Int32)), (.ref a1)])
      refine own_go (X43.aaload hx (j := (0 : Int32)) (v := (.ref a_NOT_NULL)) (by rw [e43]; exact A44.1) (State.isArrayOf_alike hZ.alike A44.2.1) rfl A44.2.2 (own_in (n := 4) rfl (by decide)) rfl (g := (mkF m 121 #[.val (.int i0), .val (.int i1), .val (.ref a1), .val (.ref a10), .val (.int (0 : Int32)), .val (.int (3 : Int32)), .unset, .unset] [(.int (0 : Int32)), (.ref a1)])) rfl rfl (hb hby at_121)) ?_
      show own_G p e below _ T43 (mkF m 122 #[.val (.int i0), .val (.int i1), .val (.ref a1), .val (.ref a10), .val (.int (0 : Int32)), .val (.int (3 : Int32)), .unset, .unset] [(.ref a_NOT_NULL)])
      refine own_go (fun t k => XS.aloadN X43.here hx rfl (hb hby at_122) rfl rfl k) ?_
      show own_G p e below _ T43 (mkF m 123 #[.val (.int i0), .val (.int i1), .val (.ref a1), .val (.ref a10), .val (.int (0 : Int32)), .val (.int (3 : Int32)), .unset, .unset] [(.ref a1), (.ref a_NOT_NULL)])
      refine own_go (fun t k => XS.iload X43.here hx rfl (hb hby at_123) rfl k) ?_
      show own_G p e below _ T43 (mkF m 125 #[.val (.int i0), .val (.int i1), .val (.ref a1), .val (.ref a10), .val (.int (0 : Int32)), .val (.int (3 : Int32)), .unset, .unset] [(.int (3 : Int32)), (.ref a1), (.ref a_NOT_NULL)])
      refine own_go (X43.aaload hx (j := (3 : Int32)) (v := (.ref a_NULLABLE)) (by rw [e43]; exact A44.1) (State.isArrayOf_alike hZ.alike A44.2.1) rfl A44.2.2 (own_in (n := 4) rfl (by decide)) rfl (g := (mkF m 125 #[.val (.int i0), .val (.int i1), .val (.ref a1), .val (.ref a10), .val (.int (0 : Int32)), .val (.int (3 : Int32)), .unset, .unset] [(.int (3 : Int32)), (.ref a1), (.ref a_NOT_NULL)])) rfl rfl (hb hby at_125)) ?_
      show own_G p e below _ T43 (mkF m 126 #[.val (.int i0), .val (.int i1), .val (.ref a1), .val (.ref a10), .val (.int (0 : Int32)), .val (.int (3 : Int32)), .unset, .unset] [(.ref a_NULLABLE), (.ref a_NOT_NULL)])
      obtain ⟨T50, L50, v50, X50, ⟨rfl, rfl, q50⟩, st50⟩ := own_callV X43 hx hZ (y := (⟨"com/example/nullsight/nullsight/check/Nullness", "meet", "(Lcom/example/nullsight/nullsight/check/Nullness;)Lcom/example/nullsight/nullsight/check/Nullness;"⟩ : MethodName)) (z := (⟨"com/example/nullsight/nullsight/check/Nullness", "meet", "(Lcom/example/nullsight/nullsight/check/Nullness;)Lcom/example/nullsight/nullsight/check/Nullness;"⟩ : MethodName)) hown (hw _ (List.mem_of_getElem? (i := 13) rfl)) (hw _ (List.mem_of_getElem? (i := 14) rfl)) (hw _ (List.mem_of_getElem? (i := 16) rfl)) (hw _ (List.mem_of_getElem? (i := 16) rfl)) (hw _ (List.mem_of_getElem? (i := 15) rfl)) (hw _ (List.mem_of_getElem? (i := 17) rfl)) (hw _ (List.mem_of_getElem? (i := 3) rfl)) (notFace_of_selects (args := #[]) (mvT hZ (hw _ (List.mem_of_getElem? (i := 16) rfl)))) (by decide) (c_meet l Z a0 hw a_NOT_NULL a_UNKNOWN a_NULL a_NULLABLE a_NOT_NULL a_NULLABLE h43 (own_B_ext x43 B) ) e43 (E_NOT_NULL.ext x43) (argsL := [(.ref a_NULLABLE)]) (rest := []) (g := (mkF m 126 #[.val (.int i0), .val (.int i1), .val (.ref a1), .val (.ref a10), .val (.int (0 : Int32)), .val (.int (3 : Int32)), .unset, .unset] [(.ref a_NULLABLE), (.ref a_NOT_NULL)])) rfl (by rw [hml]; rfl) (ps := [(.object "com/example/nullsight/nullsight/check/Nullness")]) (r := (some (.object "com/example/nullsight/nullsight/check/Nullness"))) (by decide +kernel) rfl rfl (W := 0) (by show 2 * 0 + _ ≤ _; exact Nat.le_of_eq rfl) (hb hby at_126) (by decide) (by decide) (by decide) (by decide)
      have N50 := Fr.app N43 (Fr.nil n0)
      refine own_go st50 ?_
      show own_G p e below _ T50 (mkF m 129 #[.val (.int i0), .val (.int i1), .val (.ref a1), .val (.ref a10), .val (.int (0 : Int32)), .val (.int (3 : Int32)), .unset, .unset] [(own_meet a_NOT_NULL a_UNKNOWN a_NULL a_NULLABLE a_NOT_NULL a_NULLABLE)])
      have r50 : (own_meet a_NOT_NULL a_UNKNOWN a_NULL a_NULLABLE a_NOT_NULL a_NULLABLE) = (.ref a_NOT_NULL) := by unfold own_meet; rw [if_pos (rfl : a_NOT_NULL = a_NOT_NULL), if_neg (Fld.ne F_NULLABLE_ordinal F_NOT_NULL_ordinal (own_neV (by decide))), if_neg (Fld.ne F_NULLABLE_ordinal F_NULL_ordinal (own_neV (by decide))), if_neg (Fld.ne F_NOT_NULL_ordinal F_NULLABLE_ordinal (own_neV (by decide)))]
      rw [r50]
      show own_G p e below _ T50 (mkF m 129 #[.val (.int i0), .val (.int i1), .val (.ref a1), .val (.ref a10), .val (.int (0 : Int32)), .val (.int (3 : Int32)), .unset, .unset] [(.ref a_NOT_NULL)])
      refine own_go (fun t k => XS.astore X50.here hx rfl (hb hby at_129) rfl rfl (l' := #[.val (.int i0), .val (.int i1), .val (.ref a1), .val (.ref a10), .val (.int (0 : Int32)), .val (.int (3 : Int32)), .val (.ref a_NOT_NULL), .unset]) rfl k) ?_
      show own_G p e below _ T50 (mkF m 131 #[.val (.int i0), .val (.int i1), .val (.ref a1), .val (.ref a10), .val (.int (0 : Int32)), .val (.int (3 : Int32)), .val (.ref a_NOT_NULL), .unset] [])
      refine own_go (fun t k => XS.aloadN X50.here hx rfl (hb hby at_131) rfl rfl k) ?_
      show own_G p e below _ T50 (mkF m 132 #[.val (.int i0), .val (.int i1), .val (.ref a1), .val (.ref a10), .val (.int (0 : Int32)), .val (.int (3 : Int32)), .val (.ref a_NOT_NULL), .unset] [(.ref a10)])
      refine own_go (fun t k => XS.iload X50.here hx rfl (hb hby at_132) rfl k) ?_
      show own_G p e below _ T50 (mkF m 134 #[.val (.int i0), .val (.int i1), .val (.ref a1), .val (.ref a10), .val (.int (0 : Int32)), .val (.int (3 : Int32)), .val (.ref a_NOT_NULL), .unset] [(.int (0 : Int32)), (.ref a10)])
      refine own_go (fun t k => XS.iconst X50.here hx rfl (hb hby at_134) k) ?_
      show own_G p e below _ T50 (mkF m 135 #[.val (.int i0), .val (.int i1), .val (.ref a1), .val (.ref a10), .val (.int (0 : Int32)), .val (.int (3 : Int32)), .val (.ref a_NOT_NULL), .unset] [(.int (4 : Int32)), (.int (0 : Int32)), (.ref a10)])
      refine own_go (fun t k => XS.imul X50.here hx rfl (hb hby at_135) rfl k) ?_
      show own_G p e below _ T50 (mkF m 136 #[.val (.int i0), .val (.int i1), .val (.ref a1), .val (.ref a10), .val (.int (0 : Int32)), .val (.int (3 : Int32)), .val (.ref a_NOT_NULL), .unset] [(.int (0 : Int32)), (.ref a10)])
      refine own_go (fun t k => XS.iload X50.here hx rfl (hb hby at_136) rfl k) ?_
      show own_G p e below _ T50 (mkF m 138 #[.val (.int i0), .val (.int i1), .val (.ref a1), .val (.ref a10), .val (.int (0 : Int32)), .val (.int (3 : Int32)), .val (.ref a_NOT_NULL), .unset] [(.int (3 : Int32)), (.int (0 : Int32)), (.ref a10)])
      refine own_go (fun t k => XS.iadd X50.here hx rfl (hb hby at_138) rfl k) ?_
      show own_G p e below _ T50 (mkF m 139 #[.val (.int i0), .val (.int i1), .val (.ref a1), .val (.ref a10), .val (.int (0 : Int32)), .val (.int (3 : Int32)), .val (.ref a_NOT_NULL), .unset] [(.int (3 : Int32)), (.ref a10)])
      refine own_go (X50.iaload hx (j := (3 : Int32)) (v := (.int (0 : Int32))) (by rw [q50]; exact A43.1) (State.isArrayOf_alike hZ.alike A43.2.1) A43.2.2 (own_in (n := 16) rfl (by decide)) rfl (g := (mkF m 139 #[.val (.int i0), .val (.int i1), .val (.ref a1), .val (.ref a10), .val (.int (0 : Int32)), .val (.int (3 : Int32)), .val (.ref a_NOT_NULL), .unset] [(.int (3 : Int32)), (.ref a10)])) rfl rfl (hb hby at_139)) ?_
      show own_G p e below _ T50 (mkF m 140 #[.val (.int i0), .val (.int i1), .val (.ref a1), .val (.ref a10), .val (.int (0 : Int32)), .val (.int (3 : Int32)), .val (.ref a_NOT_NULL), .unset] [(.int (0 : Int32))])
      refine own_go (fun t k => XS.istore X50.here hx rfl (hb hby at_140) rfl (l' := #[.val (.int i0), .val (.int i1), .val (.ref a1), .val (.ref a10), .val (.int (0 : Int32)), .val (.int (3 : Int32)), .val (.ref a_NOT_NULL), .val (.int (0 : Int32))]) rfl k) ?_
      show own_G p e below _ T50 (mkF m 142 #[.val (.int i0), .val (.int i1), .val (.ref a1), .val (.ref a10), .val (.int (0 : Int32)), .val (.int (3 : Int32)), .val (.ref a_NOT_NULL), .val (.int (0 : Int32))] [])
      refine own_go (fun t k => XS.iload X50.here hx rfl (hb hby at_142) rfl k) ?_
      show own_G p e below _ T50 (mkF m 144 #[.val (.int i0), .val (.int i1), .val (.ref a1), .val (.ref a10), .val (.int (0 : Int32)), .val (.int (3 : Int32)), .val (.ref a_NOT_NULL), .val (.int (0 : Int32))] [(.int (0 : Int32))])
      refine own_go (fun t k => XS.ifYes X50.here hx rfl (pc0 := 144) (pc' := 158) rfl (hb hby at_144) rfl (by decide) (by decide) (by decide) k) ?_
      show own_G p e below _ T50 (mkF m 158 #[.val (.int i0), .val (.int i1), .val (.ref a1), .val (.ref a10), .val (.int (0 : Int32)), .val (.int (3 : Int32)), .val (.ref a_NOT_NULL), .val (.int (0 : Int32))] [])
      refine own_go (fun t k => XS.aload X50.here hx rfl (hb hby at_158) rfl rfl k) ?_
      show own_G p e below _ T50 (mkF m 160 #[.val (.int i0), .val (.int i1), .val (.ref a1), .val (.ref a10), .val (.int (0 : Int32)), .val (.int (3 : Int32)), .val (.ref a_NOT_NULL), .val (.int (0 : Int32))] [(.ref a_NOT_NULL)])
      refine own_go (fun t k => XS.aloadN X50.here hx rfl (hb hby at_160) rfl rfl k) ?_
      show own_G p e below _ T50 (mkF m 161 #[.val (.int i0), .val (.int i1), .val (.ref a1), .val (.ref a10), .val (.int (0 : Int32)), .val (.int (3 : Int32)), .val (.ref a_NOT_NULL), .val (.int (0 : Int32))] [(.ref a1), (.ref a_NOT_NULL)])
      refine own_go (fun t k => XS.iload X50.here hx rfl (hb hby at_161) rfl k) ?_
      show own_G p e below _ T50 (mkF m 163 #[.val (.int i0), .val (.int i1), .val (.ref a1), .val (.ref a10), .val (.int (0 : Int32)), .val (.int (3 : Int32)), .val (.ref a_NOT_NULL), .val (.int (0 : Int32))] [(.int (0 : Int32)), (.ref a1), (.ref a_NOT_NULL)])
      refine own_go (X50.aaload hx (j := (0 : Int32)) (v := (.ref a_NOT_NULL)) (by rw [q50]; exact A44.1) (State.isArrayOf_alike hZ.alike A44.2.1) rfl A44.2.2 (own_in (n := 4) rfl (by decide)) rfl (g := (mkF m 163 #[.val (.int i0), .val (.int i1), .val (.ref a1), .val (.ref a10), .val (.int (0 : Int32)), .val (.int (3 : Int32)), .val (.ref a_NOT_NULL), .val (.int (0 : Int32))] [(.int (0 : Int32)), (.ref a1), (.ref a_NOT_NULL)])) rfl rfl (hb hby at_163)) ?_
      show own_G p e below _ T50 (mkF m 164 #[.val (.int i0), .val (.int i1), .val (.ref a1), .val (.ref a10), .val (.int (0 : Int32)), .val (.int (3 : Int32)), .val (.ref a_NOT_NULL), .val (.int (0 : Int32))] [(.ref a_NOT_NULL), (.ref a_NOT_NULL)])
      refine own_go (fun t k => Jvm.Free.XT.acmpNo X50.here hx rfl (hb hby at_164) rfl rfl rfl (own_acnF rfl) k) ?_
      show own_G p e below _ T50 (mkF m 167 #[.val (.int i0), .val (.int i1), .val (.ref a1), .val (.ref a10), .val (.int (0 : Int32)), .val (.int (3 : Int32)), .val (.ref a_NOT_NULL), .val (.int (0 : Int32))] [])
      refine own_go (fun t k => XS.iconst X50.here hx rfl (hb hby at_167) k) ?_
      show own_G p e below _ T50 (mkF m 168 #[.val (.int i0), .val (.int i1), .val (.ref a1), .val (.ref a10), .val (.int (0 : Int32)), .val (.int (3 : Int32)), .val (.ref a_NOT_NULL), .val (.int (0 : Int32))] [(.int (1 : Int32))])
      refine own_go (fun t k => XS.goto X50.here hx rfl (pc0 := 168) (pc' := 172) rfl (hb hby at_168) (by decide) (by decide) k) ?_
      show own_G p e below _ T50 (mkF m 172 #[.val (.int i0), .val (.int i1), .val (.ref a1), .val (.ref a10), .val (.int (0 : Int32)), .val (.int (3 : Int32)), .val (.ref a_NOT_NULL), .val (.int (0 : Int32))] [(.int (1 : Int32))])
      exact own_retN X50 hx hlk hret (by simp) (hb hby at_172) (by decide) (by decide) ⟨rfl, N50⟩
  · rw [hk45]
    show own_G p e below _ T43 (mkF m 118 #[.val (.int i0), .val (.int i1), .val (.ref a1), .val (.ref a10), .val (.int (1 : Int32)), .val (.int (i1 &&& (3 : Int32))), .unset, .unset] [])
    refine own_go (fun t k => XS.aloadN X43.here hx rfl (hb hby at_118) rfl rfl k) ?_
    show own_G p e below _ T43 (mkF m 119 #[.val (.int i0), .val (.int i1), .val (.ref a1), .val (.ref a10), .val (.int (1 : Int32)), .val (.int (i1 &&& (3 : Int32))), .unset, .unset] [(.ref a1)])
    rcases hf with hk51 | hk51 | hk51 | hk51
    · rw [hk51]
      show own_G p e below _ T43 (mkF m 119 #[.val (.int i0), .val (.int i1), .val (.ref a1), .val (.ref a10), .val (.int (1 : Int32)), .val (.int (0 : Int32)), .unset, .unset] [(.ref a1)])
      refine own_go (fun t k => XS.iload X43.here hx rfl (hb hby at_119) rfl k) ?_
      show own_G p e below _ T43 (mkF m 121 #[.val (.int i0), .val (.int i1), .val (.ref a1), .val (.ref a10), .val (.int (1 : Int32)), .val (.int (0 : Int32)), .unset, .unset] [(.int (1 : Int32)), (.ref a1)])
      refine own_go (X43.aaload hx (j := (1 : Int32)) (v := (.ref a_UNKNOWN)) (by rw [e43]; exact A44.1) (State.isArrayOf_alike hZ.alike A44.2.1) rfl A44.2.2 (own_in (n := 4) rfl (by decide)) rfl (g := (mkF m 121 #[.val (.int i0), .val (.int i1), .val (.ref a1), .val (.ref a10), .val (.int (1 : Int32)), .val (.int (0 : Int32)), .unset, .unset] [(.int (1 : Int32)), (.ref a1)])) rfl rfl (hb hby at_121)) ?_
      show own_G p e below _ T43 (mkF m 122 #[.val (.int i0), .val (.int i1), .val (.ref a1), .val (.ref a10), .val (.int (1 : Int32)), .val (.int (0 : Int32)), .unset, .unset] [(.ref a_UNKNOWN)])
      refine own_go (fun t k => XS.aloadN X43.here hx rfl (hb hby at_122) rfl rfl k) ?_
      show own_G p e below _ T43 (mkF m 123 #[.val (.int i0), .val (.int i1), .val (.ref a1), .val (.ref a10), .val (.int (1 : Int32)), .val (.int (0 : Int32)), .unset, .unset] [(.ref a1), (.ref a_UNKNOWN)])
      refine own_go (fun t k => XS.iload X43.here hx rfl (hb hby at_123) rfl k) ?_
      show own_G p e below _ T43 (mkF m 125 #[.val (.int i0), .val (.int i1), .val (.ref a1), .val (.ref a10), .val (.int (1 : Int32)), .val (.int (0 : Int32)), .unset, .unset] [(.int (0 : Int32)), (.ref a1), (.ref a_UNKNOWN)])
      refine own_go (X43.aaload hx (j := (0 : Int32)) (v := (.ref a_NOT_NULL)) (by rw [e43]; exact A44.1) (State.isArrayOf_alike hZ.alike A44.2.1) rfl A44.2.2 (own_in (n := 4) rfl (by decide)) rfl (g := (mkF m 125 #[.val (.int i0), .val (.int i1), .val (.ref a1), .val (.ref a10), .val (.int (1 : Int32)), .val (.int (0 : Int32)), .unset, .unset] [(.int (0 : Int32)), (.ref a1), (.ref a_UNKNOWN)])) rfl rfl (hb hby at_125)) ?_
      show own_G p e below _ T43 (mkF m 126 #[.val (.int i0), .val (.int i1), .val (.ref a1), .val (.ref a10), .val (.int (1 : Int32)), .val (.int (0 : Int32)), .unset, .unset] [(.ref a_NOT_NULL), (.ref a_UNKNOWN)])
      obtain ⟨T52, L52, v52, X52, ⟨rfl, rfl, q52⟩, st52⟩ := own_callV X43 hx hZ (y := (⟨"com/example/nullsight/nullsight/check/Nullness", "meet", "(Lcom/example/nullsight/nullsight/check/Nullness;)Lcom/example/nullsight/nullsight/check/Nullness;"⟩ : MethodName)) (z := (⟨"com/example/nullsight/nullsight/check/Nullness", "meet", "(Lcom/example/nullsight/nullsight/check/Nullness;)Lcom/example/nullsight/nullsight/check/Nullness;"⟩ : MethodName)) hown (hw _ (List.mem_of_getElem? (i := 13) rfl)) (hw _ (List.mem_of_getElem? (i := 14) rfl)) (hw _ (List.mem_of_getElem? (i := 16) rfl)) (hw _ (List.mem_of_getElem? (i := 16) rfl)) (hw _ (List.mem_of_getElem? (i := 15) rfl)) (hw _ (List.mem_of_getElem? (i := 17) rfl)) (hw _ (List.mem_of_getElem? (i := 3) rfl)) (notFace_of_selects (args := #[]) (mvT hZ (hw _ (List.mem_of_getElem? (i := 16) rfl)))) (by decide) (c_meet l Z a0 hw a_NOT_NULL a_UNKNOWN a_NULL a_NULLABLE a_UNKNOWN a_NOT_NULL h43 (own_B_ext x43 B) ) e43 (E_UNKNOWN.ext x43) (argsL := [(.ref a_NOT_NULL)]) (rest := []) (g := (mkF m 126 #[.val (.int i0), .val (.int i1), .val (.ref a1), .val (.ref a10), .val (.int (1 : Int32)), .val (.int (0 : Int32)), .unset, .unset] [(.ref a_NOT_NULL), (.ref a_UNKNOWN)])) rfl (by rw [hml]; rfl) (ps := [(.object "com/example/nullsight/nullsight/check/Nullness")]) (r := (some (.object "com/example/nullsight/nullsight/check/Nullness"))) (by decide +kernel) rfl rfl (W := 0) (by show 2 * 0 + _ ≤ _; exact Nat.le_of_eq rfl) (hb hby at_126) (by decide) (by decide) (by decide) (by decide)
      have N52 := Fr.app N43 (Fr.nil n0)
      refine own_go st52 ?_
      show own_G p e below _ T52 (mkF m 129 #[.val (.int i0), .val (.int i1), .val (.ref a1), .val (.ref a10), .val (.int (1 : Int32)), .val (.int (0 : Int32)), .unset, .unset] [(own_meet a_NOT_NULL a_UNKNOWN a_NULL a_NULLABLE a_UNKNOWN a_NOT_NULL)])
      have r52 : (own_meet a_NOT_NULL a_UNKNOWN a_NULL a_NULLABLE a_UNKNOWN a_NOT_NULL) = (.ref a_NOT_NULL) := by unfold own_meet; rw [if_neg (Fld.ne F_UNKNOWN_ordinal F_NOT_NULL_ordinal (own_neV (by decide))), if_neg (Fld.ne F_UNKNOWN_ordinal F_NULL_ordinal (own_neV (by decide))), if_pos (rfl : a_NOT_NULL = a_NOT_NULL), if_neg (Fld.ne F_UNKNOWN_ordinal F_NOT_NULL_ordinal (own_neV (by decide)))]
      rw [r52]
      show own_G p e below _ T52 (mkF m 129 #[.val (.int i0), .val (.int i1), .val (.ref a1), .val (.ref a10), .val (.int (1 : Int32)), .val (.int (0 : Int32)), .unset, .unset] [(.ref a_NOT_NULL)])
      refine own_go (fun t k => XS.astore X52.here hx rfl (hb hby at_129) rfl rfl (l' := #[.val (.int i0), .val (.int i1), .val (.ref a1), .val (.ref a10), .val (.int (1 : Int32)), .val (.int (0 : Int32)), .val (.ref a_NOT_NULL), .unset]) rfl k) ?_
      show own_G p e below _ T52 (mkF m 131 #[.val (.int i0), .val (.int i1), .val (.ref a1), .val (.ref a10), .val (.int (1 : Int32)), .val (.int (0 : Int32)), .val (.ref a_NOT_NULL), .unset] [])
      refine own_go (fun t k => XS.aloadN X52.here hx rfl (hb hby at_131) rfl rfl k) ?_
      show own_G p e below _ T52 (mkF m 132 #[.val (.int i0), .val (.int i1), .val (.ref a1), .val (.ref a10), .val (.int (1 : Int32)), .val (.int (0 : Int32)), .val (.ref a_NOT_NULL), .unset] [(.ref a10)])
      refine own_go (fun t k => XS.iload X52.here hx rfl (hb hby at_132) rfl k) ?_
      show own_G p e below _ T52 (mkF m 134 #[.val (.int i0), .val (.int i1), .val (.ref a1), .val (.ref a10), .val (.int (1 : Int32)), .val (.int (0 : Int32)), .val (.ref a_NOT_NULL), .unset] [(.int (1 : Int32)), (.ref a10)])
      refine own_go (fun t k => XS.iconst X52.here hx rfl (hb hby at_134) k) ?_
      show own_G p e below _ T52 (mkF m 135 #[.val (.int i0), .val (.int i1), .val (.ref a1), .val (.ref a10), .val (.int (1 : Int32)), .val (.int (0 : Int32)), .val (.ref a_NOT_NULL), .unset] [(.int (4 : Int32)), (.int (1 : Int32)), (.ref a10)])
      refine own_go (fun t k => XS.imul X52.here hx rfl (hb hby at_135) rfl k) ?_
      show own_G p e below _ T52 (mkF m 136 #[.val (.int i0), .val (.int i1), .val (.ref a1), .val (.ref a10), .val (.int (1 : Int32)), .val (.int (0 : Int32)), .val (.ref a_NOT_NULL), .unset] [(.int (4 : Int32)), (.ref a10)])
      refine own_go (fun t k => XS.iload X52.here hx rfl (hb hby at_136) rfl k) ?_
      show own_G p e below _ T52 (mkF m 138 #[.val (.int i0), .val (.int i1), .val (.ref a1), .val (.ref a10), .val (.int (1 : Int32)), .val (.int (0 : Int32)), .val (.ref a_NOT_NULL), .unset] [(.int (0 : Int32)), (.int (4 : Int32)), (.ref a10)])
      refine own_go (fun t k => XS.iadd X52.here hx rfl (hb hby at_138) rfl k) ?_
      show own_G p e below _ T52 (mkF m 139 #[.val (.int i0), .val (.int i1), .val (.ref a1), .val (.ref a10), .val (.int (1 : Int32)), .val (.int (0 : Int32)), .val (.ref a_NOT_NULL), .unset] [(.int (4 : Int32)), (.ref a10)])
      refine own_go (X52.iaload hx (j := (4 : Int32)) (v := (.int (0 : Int32))) (by rw [q52]; exact A43.1) (State.isArrayOf_alike hZ.alike A43.2.1) A43.2.2 (own_in (n := 16) rfl (by decide)) rfl (g := (mkF m 139 #[.val (.int i0), .val (.int i1), .val (.ref a1), .val (.ref a10), .val (.int (1 : Int32)), .val (.int (0 : Int32)), .val (.ref a_NOT_NULL), .unset] [(.int (4 : Int32)), (.ref a10)])) rfl rfl (hb hby at_139)) ?_
      show own_G p e below _ T52 (mkF m 140 #[.val (.int i0), .val (.int i1), .val (.ref a1), .val (.ref a10), .val (.int (1 : Int32)), .val (.int (0 : Int32)), .val (.ref a_NOT_NULL), .unset] [(.int (0 : Int32))])
      refine own_go (fun t k => XS.istore X52.here hx rfl (hb hby at_140) rfl (l' := #[.val (.int i0), .val (.int i1), .val (.ref a1), .val (.ref a10), .val (.int (1 : Int32)), .val (.int (0 : Int32)), .val (.ref a_NOT_NULL), .val (.int (0 : Int32))]) rfl k) ?_
      show own_G p e below _ T52 (mkF m 142 #[.val (.int i0), .val (.int i1), .val (.ref a1), .val (.ref a10), .val (.int (1 : Int32)), .val (.int (0 : Int32)), .val (.ref a_NOT_NULL), .val (.int (0 : Int32))] [])
      refine own_go (fun t k => XS.iload X52.here hx rfl (hb hby at_142) rfl k) ?_
      show own_G p e below _ T52 (mkF m 144 #[.val (.int i0), .val (.int i1), .val (.ref a1), .val (.ref a10), .val (.int (1 : Int32)), .val (.int (0 : Int32)), .val (.ref a_NOT_NULL), .val (.int (0 : Int32))] [(.int (0 : Int32))])
      refine own_go (fun t k => XS.ifYes X52.here hx rfl (pc0 := 144) (pc' := 158) rfl (hb hby at_144) rfl (by decide) (by decide) (by decide) k) ?_
      show own_G p e below _ T52 (mkF m 158 #[.val (.int i0), .val (.int i1), .val (.ref a1), .val (.ref a10), .val (.int (1 : Int32)), .val (.int (0 : Int32)), .val (.ref a_NOT_NULL), .val (.int (0 : Int32))] [])
      refine own_go (fun t k => XS.aload X52.here hx rfl (hb hby at_158) rfl rfl k) ?_
      show own_G p e below _ T52 (mkF m 160 #[.val (.int i0), .val (.int i1), .val (.ref a1), .val (.ref a10), .val (.int (1 : Int32)), .val (.int (0 : Int32)), .val (.ref a_NOT_NULL), .val (.int (0 : Int32))] [(.ref a_NOT_NULL)])
      refine own_go (fun t k => XS.aloadN X52.here hx rfl (hb hby at_160) rfl rfl k) ?_
      show own_G p e below _ T52 (mkF m 161 #[.val (.int i0), .val (.int i1), .val (.ref a1), .val (.ref a10), .val (.int (1 : Int32)), .val (.int (0 : Int32)), .val (.ref a_NOT_NULL), .val (.int (0 : Int32))] [(.ref a1), (.ref a_NOT_NULL)])
      refine own_go (fun t k => XS.iload X52.here hx rfl (hb hby at_161) rfl k) ?_
      show own_G p e below _ T52 (mkF m 163 #[.val (.int i0), .val (.int i1), .val (.ref a1), .val (.ref a10), .val (.int (1 : Int32)), .val (.int (0 : Int32)), .val (.ref a_NOT_NULL), .val (.int (0 : Int32))] [(.int (0 : Int32)), (.ref a1), (.ref a_NOT_NULL)])
      refine own_go (X52.aaload hx (j := (0 : Int32)) (v := (.ref a_NOT_NULL)) (by rw [q52]; exact A44.1) (State.isArrayOf_alike hZ.alike A44.2.1) rfl A44.2.2 (own_in (n := 4) rfl (by decide)) rfl (g := (mkF m 163 #[.val (.int i0), .val (.int i1), .val (.ref a1), .val (.ref a10), .val (.int (1 : Int32)), .val (.int (0 : Int32)), .val (.ref a_NOT_NULL), .val (.int (0 : Int32))] [(.int (0 : Int32)), (.ref a1), (.ref a_NOT_NULL)])) rfl rfl (hb hby at_163)) ?_
      show own_G p e below _ T52 (mkF m 164 #[.val (.int i0), .val (.int i1), .val (.ref a1), .val (.ref a10), .val (.int (1 : Int32)), .val (.int (0 : Int32)), .val (.ref a_NOT_NULL), .val (.int (0 : Int32))] [(.ref a_NOT_NULL), (.ref a_NOT_NULL)])
      refine own_go (fun t k => Jvm.Free.XT.acmpNo X52.here hx rfl (hb hby at_164) rfl rfl rfl (own_acnF rfl) k) ?_
      show own_G p e below _ T52 (mkF m 167 #[.val (.int i0), .val (.int i1), .val (.ref a1), .val (.ref a10), .val (.int (1 : Int32)), .val (.int (0 : Int32)), .val (.ref a_NOT_NULL), .val (.int (0 : Int32))] [])
      refine own_go (fun t k => XS.iconst X52.here hx rfl (hb hby at_167) k) ?_
      show own_G p e below _ T52 (mkF m 168 #[.val (.int i0), .val (.int i1), .val (.ref a1), .val (.ref a10), .val (.int (1 : Int32)), .val (.int (0 : Int32)), .val (.ref a_NOT_NULL), .val (.int (0 : Int32))] [(.int (1 : Int32))])
      refine own_go (fun t k => XS.goto X52.here hx rfl (pc0 := 168) (pc' := 172) rfl (hb hby at_168) (by decide) (by decide) k) ?_
      show own_G p e below _ T52 (mkF m 172 #[.val (.int i0), .val (.int i1), .val (.ref a1), .val (.ref a10), .val (.int (1 : Int32)), .val (.int (0 : Int32)), .val (.ref a_NOT_NULL), .val (.int (0 : Int32))] [(.int (1 : Int32))])
      exact own_retN X52 hx hlk hret (by simp) (hb hby at_172) (by decide) (by decide) ⟨rfl, N52⟩
    · rw [hk51]
      show own_G p e below _ T43 (mkF m 119 #[.val (.int i0), .val (.int i1), .val (.ref a1), .val (.ref a10), .val (.int (1 : Int32)), .val (.int (1 : Int32)), .unset, .unset] [(.ref a1)])
      refine own_go (fun t k => XS.iload X43.here hx rfl (hb hby at_119) rfl k) ?_
      show own_G p e below _ T43 (mkF m 121 #[.val (.int i0), .val (.int i1), .val (.ref a1), .val (.ref a10), .val (.int (1 : Int32)), .val (.int (1 : Int32)), .unset, .unset] [(.int (1 : Int32)), (.ref a1)])
      refine own_go (X43.aaload hx (j := (1 : Int32)) (v := (.ref a_UNKNOWN)) (by rw [e43]; exact A44.1) (State.isArrayOf_alike hZ.alike A44.2.1) rfl A44.2.2 (own_in (n := 4) rfl (by decide)) rfl (g := (mkF m 121 #[.val (.int i0), .val (.int i1), .val (.ref a1), .val (.ref a10), .val (.int (1 : Int32)), .val (.int (1 : Int32)), .unset, .unset] [(.int (1 : Int32)), (.ref a1)])) rfl rfl (hb hby at_121)) ?_
      show own_G p e below _ T43 (mkF m 122 #[.val (.int i0), .val (.int i1), .val (.ref a1), .val (.ref a10), .val (.int (1 : Int32)), .val (.int (1 : Int32)), .unset, .unset] [(.ref a_UNKNOWN)])
      refine own_go (fun t k => XS.aloadN X43.here hx rfl (hb hby at_122) rfl rfl k) ?_
      show own_G p e below _ T43 (mkF m 123 #[.val (.int i0), .val (.int i1), .val (.ref a1), .val (.ref a10), .val (.int (1 : Int32)), .val (.int (1 : Int32)), .unset, .unset] [(.ref a1), (.ref a_UNKNOWN)])
      refine own_go (fun t k => XS.iload X43.here hx rfl (hb hby at_123) rfl k) ?_
      show own_G p e below _ T43 (mkF m 125 #[.val (.int i0), .val (.int i1), .val (.ref a1), .val (.ref a10), .val (.int (1 : Int32)), .val (.int (1 : Int32)), .unset, .unset] [(.int (1 : Int32)), (.ref a1), (.ref a_UNKNOWN)])
      refine own_go (X43.aaload hx (j := (1 : Int32)) (v := (.ref a_UNKNOWN)) (by rw [e43]; exact A44.1) (State.isArrayOf_alike hZ.alike A44.2.1) rfl A44.2.2 (own_in (n := 4) rfl (by decide)) rfl (g := (mkF m 125 #[.val (.int i0), .val (.int i1), .val (.ref a1), .val (.ref a10), .val (.int (1 : Int32)), .val (.int (1 : Int32)), .unset, .unset] [(.int (1 : Int32)), (.ref a1), (.ref a_UNKNOWN)])) rfl rfl (hb hby at_125)) ?_
      show own_G p e below _ T43 (mkF m 126 #[.val (.int i0), .val (.int i1), .val (.ref a1), .val (.ref a10), .val (.int (1 : Int32)), .val (.int (1 : Int32)), .unset, .unset] [(.ref a_UNKNOWN), (.ref a_UNKNOWN)])
      obtain ⟨T53, L53, v53, X53, ⟨rfl, rfl, q53⟩, st53⟩ := own_callV X43 hx hZ (y := (⟨"com/example/nullsight/nullsight/check/Nullness", "meet", "(Lcom/example/nullsight/nullsight/check/Nullness;)Lcom/example/nullsight/nullsight/check/Nullness;"⟩ : MethodName)) (z := (⟨"com/example/nullsight/nullsight/check/Nullness", "meet", "(Lcom/example/nullsight/nullsight/check/Nullness;)Lcom/example/nullsight/nullsight/check/Nullness;"⟩ : MethodName)) hown (hw _ (List.mem_of_getElem? (i := 13) rfl)) (hw _ (List.mem_of_getElem? (i := 14) rfl)) (hw _ (List.mem_of_getElem? (i := 16) rfl)) (hw _ (List.mem_of_getElem? (i := 16) rfl)) (hw _ (List.mem_of_getElem? (i := 15) rfl)) (hw _ (List.mem_of_getElem? (i := 17) rfl)) (hw _ (List.mem_of_getElem? (i := 3) rfl)) (notFace_of_selects (args := #[]) (mvT hZ (hw _ (List.mem_of_getElem? (i := 16) rfl)))) (by decide) (c_meet l Z a0 hw a_NOT_NULL a_UNKNOWN a_NULL a_NULLABLE a_UNKNOWN a_UNKNOWN h43 (own_B_ext x43 B) ) e43 (E_UNKNOWN.ext x43) (argsL := [(.ref a_UNKNOWN)]) (rest := []) (g := (mkF m 126 #[.val (.int i0), .val (.int i1), .val (.ref a1), .val (.ref a10), .val (.int (1 : Int32)), .val (.int (1 : Int32)), .unset, .unset] [(.ref a_UNKNOWN), (.ref a_UNKNOWN)])) rfl (by rw [hml]; rfl) (ps := [(.object "com/example/nullsight/nullsight/check/Nullness")]) (r := (some (.object "com/example/nullsight/nullsight/check/Nullness"))) (by decide +kernel) rfl rfl (W := 0) (by show 2 * 0 + _ ≤ _; exact Nat.le_of_eq rfl) (hb hby at_126) (by decide) (by decide) (by decide) (by decide)
      have N53 := Fr.app N43 (Fr.nil n0)
      refine own_go st53 ?_
      show own_G p e below _ T53 (mkF m 129 #[.val (.int i0), .val (.int i1), .val (.ref a1), .val (.ref a10), .val (.int (1 : Int32)), .val (.int (1 : Int32)), .unset, .unset] [(own_meet a_NOT_NULL a_UNKNOWN a_NULL a_NULLABLE a_UNKNOWN a_UNKNOWN)])
      have r53 : (own_meet a_NOT_NULL a_UNKNOWN a_NULL a_NULLABLE a_UNKNOWN a_UNKNOWN) = (.ref a_UNKNOWN) := by unfold own_meet; rw [if_neg (Fld.ne F_UNKNOWN_ordinal F_NOT_NULL_ordinal (own_neV (by decide))), if_neg (Fld.ne F_UNKNOWN_ordinal F_NULL_ordinal (own_neV (by decide))), if_neg (Fld.ne F_UNKNOWN_ordinal F_NOT_NULL_ordinal (own_neV (by decide))), if_neg (Fld.ne F_UNKNOWN_ordinal F_NULL_ordinal (own_neV (by decide))), if_pos (rfl : a_UNKNOWN = a_UNKNOWN)]
      rw [r53]
      show own_G p e below _ T53 (mkF m 129 #[.val (.int i0), .val (.int i1), .val (.ref a1), .val (.ref a10), .val (.int (1 : Int32)), .val (.int (1 : Int32)), .unset, .unset] [(.ref a_UNKNOWN)])
      refine own_go (fun t k => XS.astore X53.here hx rfl (hb hby at_129) rfl rfl (l' := #[.val (.int i0), .val (.int i1), .val (.ref a1), .val (.ref a10), .val (.int (1 : Int32)), .val (.int (1 : Int32)), .val (.ref a_UNKNOWN), .unset]) rfl k) ?_
      show own_G p e below _ T53 (mkF m 131 #[.val (.int i0), .val (.int i1), .val (.ref a1), .val (.ref a10), .val (.int (1 : Int32)), .val (.int (1 : Int32)), .val (.ref a_UNKNOWN), .unset] [])
      refine own_go (fun t k => XS.aloadN X53.here hx rfl (hb hby at_131) rfl rfl k) ?_
      show own_G p e below _ T53 (mkF m 132 #[.val (.int i0), .val (.int i1), .val (.ref a1), .val (.ref a10), .val (.int (1 : Int32)), .val (.int (1 : Int32)), .val (.ref a_UNKNOWN), .unset] [(.ref a10)])
      refine own_go (fun t k => XS.iload X53.here hx rfl (hb hby at_132) rfl k) ?_
      show own_G p e below _ T53 (mkF m 134 #[.val (.int i0), .val (.int i1), .val (.ref a1), .val (.ref a10), .val (.int (1 : Int32)), .val (.int (1 : Int32)), .val (.ref a_UNKNOWN), .unset] [(.int (1 : Int32)), (.ref a10)])
      refine own_go (fun t k => XS.iconst X53.here hx rfl (hb hby at_134) k) ?_
      show own_G p e below _ T53 (mkF m 135 #[.val (.int i0), .val (.int i1), .val (.ref a1), .val (.ref a10), .val (.int (1 : Int32)), .val (.int (1 : Int32)), .val (.ref a_UNKNOWN), .unset] [(.int (4 : Int32)), (.int (1 : Int32)), (.ref a10)])
      refine own_go (fun t k => XS.imul X53.here hx rfl (hb hby at_135) rfl k) ?_
      show own_G p e below _ T53 (mkF m 136 #[.val (.int i0), .val (.int i1), .val (.ref a1), .val (.ref a10), .val (.int (1 : Int32)), .val (.int (1 : Int32)), .val (.ref a_UNKNOWN), .unset] [(.int (4 : Int32)), (.ref a10)])
      refine own_go (fun t k => XS.iload X53.here hx rfl (hb hby at_136) rfl k) ?_
      show own_G p e below _ T53 (mkF m 138 #[.val (.int i0), .val (.int i1), .val (.ref a1), .val (.ref a10), .val (.int (1 : Int32)), .val (.int (1 : Int32)), .val (.ref a_UNKNOWN), .unset] [(.int (1 : Int32)), (.int (4 : Int32)), (.ref a10)])
      refine own_go (fun t k => XS.iadd X53.here hx rfl (hb hby at_138) rfl k) ?_
      show own_G p e below _ T53 (mkF m 139 #[.val (.int i0), .val (.int i1), .val (.ref a1), .val (.ref a10), .val (.int (1 : Int32)), .val (.int (1 : Int32)), .val (.ref a_UNKNOWN), .unset] [(.int (5 : Int32)), (.ref a10)])
      refine own_go (X53.iaload hx (j := (5 : Int32)) (v := (.int (1 : Int32))) (by rw [q53]; exact A43.1) (State.isArrayOf_alike hZ.alike A43.2.1) A43.2.2 (own_in (n := 16) rfl (by decide)) rfl (g := (mkF m 139 #[.val (.int i0), .val (.int i1), .val (.ref a1), .val (.ref a10), .val (.int (1 : Int32)), .val (.int (1 : Int32)), .val (.ref a_UNKNOWN), .unset] [(.int (5 : Int32)), (.ref a10)])) rfl rfl (hb hby at_139)) ?_
      show own_G p e below _ T53 (mkF m 140 #[.val (.int i0), .val (.int i1), .val (.ref a1), .val (.ref a10), .val (.int (1 : Int32)), .val (.int (1 : Int32)), .val (.ref a_UNKNOWN), .unset] [(.int (1 : Int32))])
      refine own_go (fun t k => XS.istore X53.here hx rfl (hb hby at_140) rfl (l' := #[.val (.int i0), .val (.int i1), .val (.ref a1), .val (.ref a10), .val (.int (1 : Int32)), .val (.int (1 : Int32)), .val (.ref a_UNKNOWN), .val (.int (1 : Int32))]) rfl k) ?_
      show own_G p e below _ T53 (mkF m 142 #[.val (.int i0), .val (.int i1), .val (.ref a1), .val (.ref a10), .val (.int (1 : Int32)), .val (.int (1 : Int32)), .val (.ref a_UNKNOWN), .val (.int (1 : Int32))] [])
      refine own_go (fun t k => XS.iload X53.here hx rfl (hb hby at_142) rfl k) ?_
      show own_G p e below _ T53 (mkF m 144 #[.val (.int i0), .val (.int i1), .val (.ref a1), .val (.ref a10), .val (.int (1 : Int32)), .val (.int (1 : Int32)), .val (.ref a_UNKNOWN), .val (.int (1 : Int32))] [(.int (1 : Int32))])
      refine own_go (fun t k => XS.ifYes X53.here hx rfl (pc0 := 144) (pc' := 158) rfl (hb hby at_144) rfl (by decide) (by decide) (by decide) k) ?_
      show own_G p e below _ T53 (mkF m 158 #[.val (.int i0), .val (.int i1), .val (.ref a1), .val (.ref a10), .val (.int (1 : Int32)), .val (.int (1 : Int32)), .val (.ref a_UNKNOWN), .val (.int (1 : Int32))] [])
      refine own_go (fun t k => XS.aload X53.here hx rfl (hb hby at_158) rfl rfl k) ?_
      show own_G p e below _ T53 (mkF m 160 #[.val (.int i0), .val (.int i1), .val (.ref a1), .val (.ref a10), .val (.int (1 : Int32)), .val (.int (1 : Int32)), .val (.ref a_UNKNOWN), .val (.int (1 : Int32))] [(.ref a_UNKNOWN)])
      refine own_go (fun t k => XS.aloadN X53.here hx rfl (hb hby at_160) rfl rfl k) ?_
      show own_G p e below _ T53 (mkF m 161 #[.val (.int i0), .val (.int i1), .val (.ref a1), .val (.ref a10), .val (.int (1 : Int32)), .val (.int (1 : Int32)), .val (.ref a_UNKNOWN), .val (.int (1 : Int32))] [(.ref a1), (.ref a_UNKNOWN)])
      refine own_go (fun t k => XS.iload X53.here hx rfl (hb hby at_161) rfl k) ?_
      show own_G p e below _ T53 (mkF m 163 #[.val (.int i0), .val (.int i1), .val (.ref a1), .val (.ref a10), .val (.int (1 : Int32)), .val (.int (1 : Int32)), .val (.ref a_UNKNOWN), .val (.int (1 : Int32))] [(.int (1 : Int32)), (.ref a1), (.ref a_UNKNOWN)])
      refine own_go (X53.aaload hx (j := (1 : Int32)) (v := (.ref a_UNKNOWN)) (by rw [q53]; exact A44.1) (State.isArrayOf_alike hZ.alike A44.2.1) rfl A44.2.2 (own_in (n := 4) rfl (by decide)) rfl (g := (mkF m 163 #[.val (.int i0), .val (.int i1), .val (.ref a1), .val (.ref a10), .val (.int (1 : Int32)), .val (.int (1 : Int32)), .val (.ref a_UNKNOWN), .val (.int (1 : Int32))] [(.int (1 : Int32)), (.ref a1), (.ref a_UNKNOWN)])) rfl rfl (hb hby at_163)) ?_
      show own_G p e below _ T53 (mkF m 164 #[.val (.int i0), .val (.int i1), .val (.ref a1), .val (.ref a10), .val (.int (1 : Int32)), .val (.int (1 : Int32)), .val (.ref a_UNKNOWN), .val (.int (1 : Int32))] [(.ref a_UNKNOWN), (.ref a_UNKNOWN)])
      refine own_go (fun t k => Jvm.Free.XT.acmpNo X53.here hx rfl (hb hby at_164) rfl rfl rfl (own_acnF rfl) k) ?_
      show own_G p e below _ T53 (mkF m 167 #[.val (.int i0), .val (.int i1), .val (.ref a1), .val (.ref a10), .val (.int (1 : Int32)), .val (.int (1 : Int32)), .val (.ref a_UNKNOWN), .val (.int (1 : Int32))] [])
      refine own_go (fun t k => XS.iconst X53.here hx rfl (hb hby at_167) k) ?_
      show own_G p e below _ T53 (mkF m 168 #[.val (.int i0), .val (.int i1), .val (.ref a1), .val (.ref a10), .val (.int (1 : Int32)), .val (.int (1 : Int32)), .val (.ref a_UNKNOWN), .val (.int (1 : Int32))] [(.int (1 : Int32))])
      refine own_go (fun t k => XS.goto X53.here hx rfl (pc0 := 168) (pc' := 172) rfl (hb hby at_168) (by decide) (by decide) k) ?_
      show own_G p e below _ T53 (mkF m 172 #[.val (.int i0), .val (.int i1), .val (.ref a1), .val (.ref a10), .val (.int (1 : Int32)), .val (.int (1 : Int32)), .val (.ref a_UNKNOWN), .val (.int (1 : Int32))] [(.int (1 : Int32))])
      exact own_retN X53 hx hlk hret (by simp) (hb hby at_172) (by decide) (by decide) ⟨rfl, N53⟩
    · rw [hk51]
      show own_G p e below _ T43 (mkF m 119 #[.val (.int i0), .val (.int i1), .val (.ref a1), .val (.ref a10), .val (.int (1 : Int32)), .val (.int (2 : Int32)), .unset, .unset] [(.ref a1)])
      refine own_go (fun t k => XS.iload X43.here hx rfl (hb hby at_119) rfl k) ?_
      show own_G p e below _ T43 (mkF m 121 #[.val (.int i0), .val (.int i1), .val (.ref a1), .val (.ref a10), .val (.int (1 : Int32)), .val (.int (2 : Int32)), .unset, .unset] [(.int (1 : Int32)), (.ref a1)])
      refine own_go (X43.aaload hx (j := (1 : Int32)) (v := (.ref a_UNKNOWN)) (by rw [e43]; exact A44.1) (State.isArrayOf_alike hZ.alike A44.2.1) rfl A44.2.2 (own_in (n := 4) rfl (by decide)) rfl (g := (mkF m 121 #[.val (.int i0), .val (.int i1), .val (.ref a1), .val (.ref a10), .val (.int (1 : Int32)), .val (.int (2 : Int32)), .unset, .unset] [(.int (1 : Int32)), (.ref a1)])) rfl rfl (hb hby at_121)) ?_
      show own_G p e below _ T43 (mkF m 122 #[.val (.int i0), .val (.int i1), .val (.ref a1), .val (.ref a10), .val (.int (1 : Int32)), .val (.int (2 : Int32)), .unset, .unset] [(.ref a_UNKNOWN)])
      refine own_go (fun t k => XS.aloadN X43.here hx rfl (hb hby at_122) rfl rfl k) ?_
      show own_G p e below _ T43 (mkF m 123 #[.val (.int i0), .val (.int i1), .val (.ref a1), .val (.ref a10), .val (.int (1 : Int32)), .val (.int (2 : Int32)), .unset, .unset] [(.ref a1), (.ref a_UNKNOWN)])
      refine own_go (fun t k => XS.iload X43.here hx rfl (hb hby at_123) rfl k) ?_
      show own_G p e below _ T43 (mkF m 125 #[.val (.int i0), .val (.int i1), .val (.ref a1), .val (.ref a10), .val (.int (1 : Int32)), .val (.int (2 : Int32)), .unset, .unset] [(.int (2 : Int32)), (.ref a1), (.ref a_UNKNOWN)])
      refine own_go (X43.aaload hx (j := (2 : Int32)) (v := (.ref a_NULL)) (by rw [e43]; exact A44.1) (State.isArrayOf_alike hZ.alike A44.2.1) rfl A44.2.2 (own_in (n := 4) rfl (by decide)) rfl (g := (mkF m 125 #[.val (.int i0), .val (.int i1), .val (.ref a1), .val (.ref a10), .val (.int (1 : Int32)), .val (.int (2 : Int32)), .unset, .unset] [(.int (2 : Int32)), (.ref a1), (.ref a_UNKNOWN)])) rfl rfl (hb hby at_125)) ?_
      show own_G p e below _ T43 (mkF m 126 #[.val (.int i0), .val (.int i1), .val (.ref a1), .val (.ref a10), .val (.int (1 : Int32)), .val (.int (2 : Int32)), .unset, .unset] [(.ref a_NULL), (.ref a_UNKNOWN)])
      obtain ⟨T54, L54, v54, X54, ⟨rfl, rfl, q54⟩, st54⟩ := own_callV X43 hx hZ (y := (⟨"com/example/nullsight/nullsight/check/Nullness", "meet", "(Lcom/example/nullsight/nullsight/check/Nullness;)Lcom/example/nullsight/nullsight/check/Nullness;"⟩ : MethodName)) (z := (⟨"com/example/nullsight/nullsight/check/Nullness", "meet", "(Lcom/example/nullsight/nullsight/check/Nullness;)Lcom/example/nullsight/nullsight/check/Nullness;"⟩ : MethodName)) hown (hw _ (List.mem_of_getElem? (i := 13) rfl)) (hw _ (List.mem_of_getElem? (i := 14) rfl)) (hw _ (List.mem_of_getElem? (i := 16) rfl)) (hw _ (List.mem_of_getElem? (i := 16) rfl)) (hw _ (List.mem_of_getElem? (i := 15) rfl)) (hw _ (List.mem_of_getElem? (i := 17) rfl)) (hw _ (List.mem_of_getElem? (i := 3) rfl)) (notFace_of_selects (args := #[]) (mvT hZ (hw _ (List.mem_of_getElem? (i := 16) rfl)))) (by decide) (c_meet l Z a0 hw a_NOT_NULL a_UNKNOWN a_NULL a_NULLABLE a_UNKNOWN a_NULL h43 (own_B_ext x43 B) ) e43 (E_UNKNOWN.ext x43) (argsL := [(.ref a_NULL)]) (rest := []) (g := (mkF m 126 #[.val (.int i0), .val (.int i1), .val (.ref a1), .val (.ref a10), .val (.int (1 : Int32)), .val (.int (2 : Int32)), .unset, .unset] [(.ref a_NULL), (.ref a_UNKNOWN)])) rfl (by rw [hml]; rfl) (ps := [(.object "com/example/nullsight/nullsight/check/Nullness")]) (r := (some (.object "com/example/nullsight/nullsight/check/Nullness"))) (by decide +kernel) rfl rfl (W := 0) (by show 2 * 0 + _ ≤ _; exact Nat.le_of_eq rfl) (hb hby at_126) (by decide) (by decide) (by decide) (by decide)
      have N54 := Fr.app N43 (Fr.nil n0)
      refine own_go st54 ?_
      show own_G p e below _ T54 (mkF m 129 #[.val (.int i0), .val (.int i1), .val (.ref a1), .val (.ref a10), .val (.int (1 : Int32)), .val (.int (2 : Int32)), .unset, .unset] [(own_meet a_NOT_NULL a_UNKNOWN a_NULL a_NULLABLE a_UNKNOWN a_NULL)])
      have r54 : (own_meet a_NOT_NULL a_UNKNOWN a_NULL a_NULLABLE a_UNKNOWN a_NULL) = (.ref a_NULL) := by unfold own_meet; rw [if_neg (Fld.ne F_UNKNOWN_ordinal F_NOT_NULL_ordinal (own_neV (by decide))), if_neg (Fld.ne F_UNKNOWN_ordinal F_NULL_ordinal (own_neV (by decide))), if_neg (Fld.ne F_NULL_ordinal F_NOT_NULL_ordinal (own_neV (by decide))), if_pos (rfl : a_NULL = a_NULL), if_neg (Fld.ne F_UNKNOWN_ordinal F_NULL_ordinal (own_neV (by decide)))]
      rw [r54]
      show own_G p e below _ T54 (mkF m 129 #[.val (.int i0), .val (.int i1), .val (.ref a1), .val (.ref a10), .val (.int (1 : Int32)), .val (.int (2 : Int32)), .unset, .unset] [(.ref a_NULL)])
      refine own_go (fun t k => XS.astore X54.here hx rfl (hb hby at_129) rfl rfl (l' := #[.val (.int i0), .val (.int i1), .val (.ref a1), .val (.ref a10), .val (.int (1 : Int32)), .val (.int (2 : Int32)), .val (.ref a_NULL), .unset]) rfl k) ?_
      show own_G p e below _ T54 (mkF m 131 #[.val (.int i0), .val (.int i1), .val (.ref a1), .val (.ref a10), .val (.int (1 : Int32)), .val (.int (2 : Int32)), .val (.ref a_NULL), .unset] [])
      refine own_go (fun t k => XS.aloadN X54.here hx rfl (hb hby at_131) rfl rfl k) ?_
      show own_G p e below _ T54 (mkF m 132 #[.val (.int i0), .val (.int i1), .val (.ref a1), .val (.ref a10), .val (.int (1 : Int32)), .val (.int (2 : Int32)), .val (.ref a_NULL), .unset] [(.ref a10)])
      refine own_go (fun t k => XS.iload X54.here hx rfl (hb hby at_132) rfl k) ?_
      show own_G p e below _ T54 (mkF m 134 #[.val (.int i0), .val (.int i1), .val (.ref a1), .val (.ref a10), .val (.int (1 : Int32)), .val (.int (2 : Int32)), .val (.ref a_NULL), .unset] [(.int (1 : Int32)), (.ref a10)])
      refine own_go (fun t k => XS.iconst X54.here hx rfl (hb hby at_134) k) ?_
      show own_G p e below _ T54 (mkF m 135 #[.val (.int i0), .val (.int i1), .val (.ref a1), .val (.ref a10), .val (.int (1 : Int32)), .val (.int (2 : Int32)), .val (.ref a_NULL), .unset] [(.int (4 : Int32)), (.int (1 : Int32)), (.ref a10)])
      refine own_go (fun t k => XS.imul X54.here hx rfl (hb hby at_135) rfl k) ?_
      show own_G p e below _ T54 (mkF m 136 #[.val (.int i0), .val (.int i1), .val (.ref a1), .val (.ref a10), .val (.int (1 : Int32)), .val (.int (2 : Int32)), .val (.ref a_NULL), .unset] [(.int (4 : Int32)), (.ref a10)])
      refine own_go (fun t k => XS.iload X54.here hx rfl (hb hby at_136) rfl k) ?_
      show own_G p e below _ T54 (mkF m 138 #[.val (.int i0), .val (.int i1), .val (.ref a1), .val (.ref a10), .val (.int (1 : Int32)), .val (.int (2 : Int32)), .val (.ref a_NULL), .unset] [(.int (2 : Int32)), (.int (4 : Int32)), (.ref a10)])
      refine own_go (fun t k => XS.iadd X54.here hx rfl (hb hby at_138) rfl k) ?_
      show own_G p e below _ T54 (mkF m 139 #[.val (.int i0), .val (.int i1), .val (.ref a1), .val (.ref a10), .val (.int (1 : Int32)), .val (.int (2 : Int32)), .val (.ref a_NULL), .unset] [(.int (6 : Int32)), (.ref a10)])
      refine own_go (X54.iaload hx (j := (6 : Int32)) (v := (.int (2 : Int32))) (by rw [q54]; exact A43.1) (State.isArrayOf_alike hZ.alike A43.2.1) A43.2.2 (own_in (n := 16) rfl (by decide)) rfl (g := (mkF m 139 #[.val (.int i0), .val (.int i1), .val (.ref a1), .val (.ref a10), .val (.int (1 : Int32)), .val (.int (2 : Int32)), .val (.ref a_NULL), .unset] [(.int (6 : Int32)), (.ref a10)])) rfl rfl (hb hby at_139)) ?_
      show own_G p e below _ T54 (mkF m 140 #[.val (.int i0), .val (.int i1), .val (.ref a1), .val (.ref a10), .val (.int (1 : Int32)), .val (.int (2 : Int32)), .val (.ref a_NULL), .unset] [(.int (2 : Int32))])
      refine own_go (fun t k => XS.istore X54.here hx rfl (hb hby at_140) rfl (l' := #[.val (.int i0), .val (.int i1), .val (.ref a1), .val (.ref a10), .val (.int (1 : Int32)), .val (.int (2 : Int32)), .val (.ref a_NULL), .val (.int (2 : Int32))]) rfl k) ?_
      show own_G p e below _ T54 (mkF m 142 #[.val (.int i0), .val (.int i1), .val (.ref a1), .val (.ref a10), .val (.int (1 : Int32)), .val (.int (2 : Int32)), .val (.ref a_NULL), .val (.int (2 : Int32))] [])
      refine own_go (fun t k => XS.iload X54.here hx rfl (hb hby at_142) rfl k) ?_
      show own_G p e below _ T54 (mkF m 144 #[.val (.int i0), .val (.int i1), .val (.ref a1), .val (.ref a10), .val (.int (1 : Int32)), .val (.int (2 : Int32)), .val (.ref a_NULL), .val (.int (2 : Int32))] [(.int (2 : Int32))])
      refine own_go (fun t k => XS.ifYes X54.here hx rfl (pc0 := 144) (pc' := 158) rfl (hb hby at_144) rfl (by decide) (by decide) (by decide) k) ?_
      show own_G p e below _ T54 (mkF m 158 #[.val (.int i0), .val (.int i1), .val (.ref a1), .val (.ref a10), .val (.int (1 : Int32)), .val (.int (2 : Int32)), .val (.ref a_NULL), .val (.int (2 : Int32))] [])
      refine own_go (fun t k => XS.aload X54.here hx rfl (hb hby at_158) rfl rfl k) ?_
      show own_G p e below _ T54 (mkF m 160 #[.val (.int i0), .val (.int i1), .val (.ref a1), .val (.ref a10), .val (.int (1 : Int32)), .val (.int (2 : Int32)), .val (.ref a_NULL), .val (.int (2 : Int32))] [(.ref a_NULL)])
      refine own_go (fun t k => XS.aloadN X54.here hx rfl (hb hby at_160) rfl rfl k) ?_
      show own_G p e below _ T54 (mkF m 161 #[.val (.int i0), .val (.int i1), .val (.ref a1), .val (.ref a10), .val (.int (1 : Int32)), .val (.int (2 : Int32)), .val (.ref a_NULL), .val (.int (2 : Int32))] [(.ref a1), (.ref a_NULL)])
      refine own_go (fun t k => XS.iload X54.here hx rfl (hb hby at_161) rfl k) ?_
      show own_G p e below _ T54 (mkF m 163 #[.val (.int i0), .val (.int i1), .val (.ref a1), .val (.ref a10), .val (.int (1 : Int32)), .val (.int (2 : Int32)), .val (.ref a_NULL), .val (.int (2 : Int32))] [(.int (2 : Int32)), (.ref a1), (.ref a_NULL)])
      refine own_go (X54.aaload hx (j := (2 : Int32)) (v := (.ref a_NULL)) (by rw [q54]; exact A44.1) (State.isArrayOf_alike hZ.alike A44.2.1) rfl A44.2.2 (own_in (n := 4) rfl (by decide)) rfl (g := (mkF m 163 #[.val (.int i0), .val (.int i1), .val (.ref a1), .val (.ref a10), .val (.int (1 : Int32)), .val (.int (2 : Int32)), .val (.ref a_NULL), .val (.int (2 : Int32))] [(.int (2 : Int32)), (.ref a1), (.ref a_NULL)])) rfl rfl (hb hby at_163)) ?_
      show own_G p e below _ T54 (mkF m 164 #[.val (.int i0), .val (.int i1), .val (.ref a1), .val (.ref a10), .val (.int (1 : Int32)), .val (.int (2 : Int32)), .val (.ref a_NULL), .val (.int (2 : Int32))] [(.ref a_NULL), (.ref a_NULL)])
      refine own_go (fun t k => Jvm.Free.XT.acmpNo X54.here hx rfl (hb hby at_164) rfl rfl rfl (own_acnF rfl) k) ?_
      show own_G p e below _ T54 (mkF m 167 #[.val (.int i0), .val (.int i1), .val (.ref a1), .val (.ref a10), .val (.int (1 : Int32)), .val (.int (2 : Int32)), .val (.ref a_NULL), .val (.int (2 : Int32))] [])
      refine own_go (fun t k => XS.iconst X54.here hx rfl (hb hby at_167) k) ?_
      show own_G p e below _ T54 (mkF m 168 #[.val (.int i0), .val (.int i1), .val (.ref a1), .val (.ref a10), .val (.int (1 : Int32)), .val (.int (2 : Int32)), .val (.ref a_NULL), .val (.int (2 : Int32))] [(.int (1 : Int32))])
      refine own_go (fun t k => XS.goto X54.here hx rfl (pc0 := 168) (pc' := 172) rfl (hb hby at_168) (by decide) (by decide) k) ?_
      show own_G p e below _ T54 (mkF m 172 #[.val (.int i0), .val (.int i1), .val (.ref a1), .val (.ref a10), .val (.int (1 : Int32)), .val (.int (2 : Int32)), .val (.ref a_NULL), .val (.int (2 : Int32))] [(.int (1 : Int32))])
      exact own_retN X54 hx hlk hret (by simp) (hb hby at_172) (by decide) (by decide) ⟨rfl, N54⟩
    · rw [hk51]
      show own_G p e below _ T43 (mkF m 119 #[.val (.int i0), .val (.int i1), .val (.ref a1), .val (.ref a10), .val (.int (1 : Int32)), .val (.int (3 : Int32)), .unset, .unset] [(.ref a1)])
      refine own_go (fun t k => XS.iload X43.here hx rfl (hb hby at_119) rfl k) ?_
      show own_G p e below _ T43 (mkF m 121 #[.val (.int i0), .val (.int i1), .val (.ref a1), .val (.ref a10), .val (.int (1 : Int32)), .val (.int (3 : Int32)), .unset, .unset] [(.int (1 : Int32)), (.ref a1)])
      refine own_go (X43.aaload hx (j := (1 : Int32)) (v := (.ref a_UNKNOWN)) (by rw [e43]; exact A44.1) (State.isArrayOf_alike hZ.alike A44.2.1) rfl A44.2.2 (own_in (n := 4) rfl (by decide)) rfl (g := (mkF m 121 #[.val (.int i0), .val (.int i1), .val (.ref a1), .val (.ref a10), .val (.int (1 : Int32)), .val (.int (3 : Int32)), .unset, .unset] [(.int (1 : Int32)), (.ref a1)])) rfl rfl (hb hby at_121)) ?_
      show own_G p e below _ T43 (mkF m 122 #[.val (.int i0), .val (.int i1), .val (.ref a1), .val (.ref a10), .val (.int (1 : Int32)), .val (.int (3 : Int32)), .unset, .unset] [(.ref a_UNKNOWN)])
      refine own_go (fun t k => XS.aloadN X43.here hx rfl (hb hby at_122) rfl rfl k) ?_
      show own_G p e below _ T43 (mkF m 123 #[.val (.int i0), .val (.int i1), .val (.ref a1), .val (.ref a10), .val (.int (1 : Int32)), .val (.int (3 : Int32)), .unset, .unset] [(.ref a1), (.ref a_UNKNOWN)])
      refine own_go (fun t k => XS.iload X43.here hx rfl (hb hby at_123) rfl k) ?_
      show own_G p e below _ T43 (mkF m 125 #[.val (.int i0), .val (.int i1), .val (.ref a1), .val (.ref a10), .val (.int (1 : Int32)), .val (.int (3 : Int32)), .unset, .unset] [(.int (3 : Int32)), (.ref a1), (.ref a_UNKNOWN)])
      refine own_go (X43.aaload hx (j := (3 : Int32)) (v := (.ref a_NULLABLE)) (by rw [e43]; exact A44.1) (State.isArrayOf_alike hZ.alike A44.2.1) rfl A44.2.2 (own_in (n := 4) rfl (by decide)) rfl (g := (mkF m 125 #[.val (.int i0), .val (.int i1), .val (.ref a1), .val (.ref a10), .val (.int (1 : Int32)), .val (.int (3 : Int32)), .unset, .unset] [(.int (3 : Int32)), (.ref a1), (.ref a_UNKNOWN)])) rfl rfl (hb hby at_125)) ?_
      show own_G p e below _ T43 (mkF m 126 #[.val (.int i0), .val (.int i1), .val (.ref a1), .val (.ref a10), .val (.int (1 : Int32)), .val (.int (3 : Int32)), .unset, .unset] [(.ref a_NULLABLE), (.ref a_UNKNOWN)])
      obtain ⟨T55, L55, v55, X55, ⟨rfl, rfl, q55⟩, st55⟩ := own_callV X43 hx hZ (y := (⟨"com/example/nullsight/nullsight/check/Nullness", "meet", "(Lcom/example/nullsight/nullsight/check/Nullness;)Lcom/example/nullsight/nullsight/check/Nullness;"⟩ : MethodName)) (z := (⟨"com/example/nullsight/nullsight/check/Nullness", "meet", "(Lcom/example/nullsight/nullsight/check/Nullness;)Lcom/example/nullsight/nullsight/check/Nullness;"⟩ : MethodName)) hown (hw _ (List.mem_of_getElem? (i := 13) rfl)) (hw _ (List.mem_of_getElem? (i := 14) rfl)) (hw _ (List.mem_of_getElem? (i := 16) rfl)) (hw _ (List.mem_of_getElem? (i := 16) rfl)) (hw _ (List.mem_of_getElem? (i := 15) rfl)) (hw _ (List.mem_of_getElem? (i := 17) rfl)) (hw _ (List.mem_of_getElem? (i := 3) rfl)) (notFace_of_selects (args := #[]) (mvT hZ (hw _ (List.mem_of_getElem? (i := 16) rfl)))) (by decide) (c_meet l Z a0 hw a_NOT_NULL a_UNKNOWN a_NULL a_NULLABLE a_UNKNOWN a_NULLABLE h43 (own_B_ext x43 B) ) e43 (E_UNKNOWN.ext x43) (argsL := [(.ref a_NULLABLE)]) (rest := []) (g := (mkF m 126 #[.val (.int i0), .val (.int i1), .val (.ref a1), .val (.ref a10), .val (.int (1 : Int32)), .val (.int (3 : Int32)), .unset, .unset] [(.ref a_NULLABLE), (.ref a_UNKNOWN)])) rfl (by rw [hml]; rfl) (ps := [(.object "com/example/nullsight/nullsight/check/Nullness")]) (r := (some (.object "com/example/nullsight/nullsight/check/Nullness"))) (by decide +kernel) rfl rfl (W := 0) (by show 2 * 0 + _ ≤ _; exact Nat.le_of_eq rfl) (hb hby at_126) (by decide) (by decide) (by decide) (by decide)
      have N55 := Fr.app N43 (Fr.nil n0)
      refine own_go st55 ?_
      show own_G p e below _ T55 (mkF m 129 #[.val (.int i0), .val (.int i1), .val (.ref a1), .val (.ref a10), .val (.int (1 : Int32)), .val (.int (3 : Int32)), .unset, .unset] [(own_meet a_NOT_NULL a_UNKNOWN a_NULL a_NULLABLE a_UNKNOWN a_NULLABLE)])
      have r55 : (own_meet a_NOT_NULL a_UNKNOWN a_NULL a_NULLABLE a_UNKNOWN a_NULLABLE) = (.ref a_UNKNOWN) := by unfold own_meet; rw [if_neg (Fld.ne F_UNKNOWN_ordinal F_NOT_NULL_ordinal (own_neV (by decide))), if_neg (Fld.ne F_UNKNOWN_ordinal F_NULL_ordinal (own_neV (by decide))), if_neg (Fld.ne F_NULLABLE_ordinal F_NOT_NULL_ordinal (own_neV (by decide))), if_neg (Fld.ne F_NULLABLE_ordinal F_NULL_ordinal (own_neV (by decide))), if_neg (Fld.ne F_UNKNOWN_ordinal F_NULLABLE_ordinal (own_neV (by decide)))]
      rw [r55]
      show own_G p e below _ T55 (mkF m 129 #[.val (.int i0), .val (.int i1), .val (.ref a1), .val (.ref a10), .val (.int (1 : Int32)), .val (.int (3 : Int32)), .unset, .unset] [(.ref a_UNKNOWN)])
      refine own_go (fun t k => XS.astore X55.here hx rfl (hb hby at_129) rfl rfl (l' := #[.val (.int i0), .val (.int i1), .val (.ref a1), .val (.ref a10), .val (.int (1 : Int32)), .val (.int (3 : Int32)), .val (.ref a_UNKNOWN), .unset]) rfl k) ?_
      show own_G p e below _ T55 (mkF m 131 #[.val (.int i0), .val (.int i1), .val (.ref a1), .val (.ref a10), .val (.int (1 : Int32)), .val (.int (3 : Int32)), .val (.ref a_UNKNOWN), .unset] [])
      refine own_go (fun t k => XS.aloadN X55.here hx rfl (hb hby at_131) rfl rfl k) ?_
      show own_G p e below _ T55 (mkF m 132 #[.val (.int i0), .val (.int i1), .val (.ref a1), .val (.ref a10), .val (.int (1 : Int32)), .val (.int (3 : Int32)), .val (.ref a_UNKNOWN), .unset] [(.ref a10)])
      refine own_go (fun t k => XS.iload X55.here hx rfl (hb hby at_132) rfl k) ?_
      show own_G p e below _ T55 (mkF m 134 #[.val (.int i0), .val (.int i1), .val (.ref a1), .val (.ref a10), .val (.int (1 : Int32)), .val (.int (3 : Int32)), .val (.ref a_UNKNOWN), .unset] [(.int (1 : Int32)), (.ref a10)])
      refine own_go (fun t k => XS.iconst X55.here hx rfl (hb hby at_134) k) ?_
      show own_G p e below _ T55 (mkF m 135 #[.val (.int i0), .val (.int i1), .val (.ref a1), .val (.ref a10), .val (.int (1 : Int32)), .val (.int (3 : Int32)), .val (.ref a_UNKNOWN), .unset] [(.int (4 : Int32)), (.int (1 : Int32)), (.ref a10)])
      refine own_go (fun t k => XS.imul X55.here hx rfl (hb hby at_135) rfl k) ?_
      show own_G p e below _ T55 (mkF m 136 #[.val (.int i0), .val (.int i1), .val (.ref a1), .val (.ref a10), .val (.int (1 : Int32)), .val (.int (3 : Int32)), .val (.ref a_UNKNOWN), .unset] [(.int (4 : Int32)), (.ref a10)])
      refine own_go (fun t k => XS.iload X55.here hx rfl (hb hby at_136) rfl k) ?_
      show own_G p e below _ T55 (mkF m 138 #[.val (.int i0), .val (.int i1), .val (.ref a1), .val (.ref a10), .val (.int (1 : Int32)), .val (.int (3 : Int32)), .val (.ref a_UNKNOWN), .unset] [(.int (3 : Int32)), (.int (4 : Int32)), (.ref a10)])
      refine own_go (fun t k => XS.iadd X55.here hx rfl (hb hby at_138) rfl k) ?_
      show own_G p e below _ T55 (mkF m 139 #[.val (.int i0), .val (.int i1), .val (.ref a1), .val (.ref a10), .val (.int (1 : Int32)), .val (.int (3 : Int32)), .val (.ref a_UNKNOWN), .unset] [(.int (7 : Int32)), (.ref a10)])
      refine own_go (X55.iaload hx (j := (7 : Int32)) (v := (.int (1 : Int32))) (by rw [q55]; exact A43.1) (State.isArrayOf_alike hZ.alike A43.2.1) A43.2.2 (own_in (n := 16) rfl (by decide)) rfl (g := (mkF m 139 #[.val (.int i0), .val (.int i1), .val (.ref a1), .val (.ref a10), .val (.int (1 : Int32)), .val (.int (3 : Int32)), .val (.ref a_UNKNOWN), .unset] [(.int (7 : Int32)), (.ref a10)])) rfl rfl (hb hby at_139)) ?_
      show own_G p e below _ T55 (mkF m 140 #[.val (.int i0), .val (.int i1), .val (.ref a1), .val (.ref a10), .val (.int (1 : Int32)), .val (.int (3 : Int32)), .val (.ref a_UNKNOWN), .unset] [(.int (1 : Int32))])
      refine own_go (fun t k => XS.istore X55.here hx rfl (hb hby at_140) rfl (l' := #[.val (.int i0), .val (.int i1), .val (.ref a1), .val (.ref a10), .val (.int (1 : Int32)), .val (.int (3 : Int32)), .val (.ref a_UNKNOWN), .val (.int (1 : Int32))]) rfl k) ?_
      show own_G p e below _ T55 (mkF m 142 #[.val (.int i0), .val (.int i1), .val (.ref a1), .val (.ref a10), .val (.int (1 : Int32)), .val (.int (3 : Int32)), .val (.ref a_UNKNOWN), .val (.int (1 : Int32))] [])
      refine own_go (fun t k => XS.iload X55.here hx rfl (hb hby at_142) rfl k) ?_
      show own_G p e below _ T55 (mkF m 144 #[.val (.int i0), .val (.int i1), .val (.ref a1), .val (.ref a10), .val (.int (1 : Int32)), .val (.int (3 : Int32)), .val (.ref a_UNKNOWN), .val (.int (1 : Int32))] [(.int (1 : Int32))])
      refine own_go (fun t k => XS.ifYes X55.here hx rfl (pc0 := 144) (pc' := 158) rfl (hb hby at_144) rfl (by decide) (by decide) (by decide) k) ?_
      show own_G p e below _ T55 (mkF m 158 #[.val (.int i0), .val (.int i1), .val (.ref a1), .val (.ref a10), .val (.int (1 : Int32)), .val (.int (3 : Int32)), .val (.ref a_UNKNOWN), .val (.int (1 : Int32))] [])
      refine own_go (fun t k => XS.aload X55.here hx rfl (hb hby at_158) rfl rfl k) ?_
      show own_G p e below _ T55 (mkF m 160 #[.val (.int i0), .val (.int i1), .val (.ref a1), .val (.ref a10), .val (.int (1 : Int32)), .val (.int (3 : Int32)), .val (.ref a_UNKNOWN), .val (.int (1 : Int32))] [(.ref a_UNKNOWN)])
      refine own_go (fun t k => XS.aloadN X55.here hx rfl (hb hby at_160) rfl rfl k) ?_
      show own_G p e below _ T55 (mkF m 161 #[.val (.int i0), .val (.int i1), .val (.ref a1), .val (.ref a10), .val (.int (1 : Int32)), .val (.int (3 : Int32)), .val (.ref a_UNKNOWN), .val (.int (1 : Int32))] [(.ref a1), (.ref a_UNKNOWN)])
      refine own_go (fun t k => XS.iload X55.here hx rfl (hb hby at_161) rfl k) ?_
      show own_G p e below _ T55 (mkF m 163 #[.val (.int i0), .val (.int i1), .val (.ref a1), .val (.ref a10), .val (.int (1 : Int32)), .val (.int (3 : Int32)), .val (.ref a_UNKNOWN), .val (.int (1 : Int32))] [(.int (1 : Int32)), (.ref a1), (.ref a_UNKNOWN)])
      refine own_go (X55.aaload hx (j := (1 : Int32)) (v := (.ref a_UNKNOWN)) (by rw [q55]; exact A44.1) (State.isArrayOf_alike hZ.alike A44.2.1) rfl A44.2.2 (own_in (n := 4) rfl (by decide)) rfl (g := (mkF m 163 #[.val (.int i0), .val (.int i1), .val (.ref a1), .val (.ref a10), .val (.int (1 : Int32)), .val (.int (3 : Int32)), .val (.ref a_UNKNOWN), .val (.int (1 : Int32))] [(.int (1 : Int32)), (.ref a1), (.ref a_UNKNOWN)])) rfl rfl (hb hby at_163)) ?_
      show own_G p e below _ T55 (mkF m 164 #[.val (.int i0), .val (.int i1), .val (.ref a1), .val (.ref a10), .val (.int (1 : Int32)), .val (.int (3 : Int32)), .val (.ref a_UNKNOWN), .val (.int (1 : Int32))] [(.ref a_UNKNOWN), (.ref a_UNKNOWN)])
      refine own_go (fun t k => Jvm.Free.XT.acmpNo X55.here hx rfl (hb hby at_164) rfl rfl rfl (own_acnF rfl) k) ?_
      show own_G p e below _ T55 (mkF m 167 #[.val (.int i0), .val (.int i1), .val (.ref a1), .val (.ref a10), .val (.int (1 : Int32)), .val (.int (3 : Int32)), .val (.ref a_UNKNOWN), .val (.int (1 : Int32))] [])
      refine own_go (fun t k => XS.iconst X55.here hx rfl (hb hby at_167) k) ?_
      show own_G p e below _ T55 (mkF m 168 #[.val (.int i0), .val (.int i1), .val (.ref a1), .val (.ref a10), .val (.int (1 : Int32)), .val (.int (3 : Int32)), .val (.ref a_UNKNOWN), .val (.int (1 : Int32))] [(.int (1 : Int32))])
      refine own_go (fun t k => XS.goto X55.here hx rfl (pc0 := 168) (pc' := 172) rfl (hb hby at_168) (by decide) (by decide) k) ?_
      show own_G p e below _ T55 (mkF m 172 #[.val (.int i0), .val (.int i1), .val (.ref a1), .val (.ref a10), .val (.int (1 : Int32)), .val (.int (3 : Int32)), .val (.ref a_UNKNOWN), .val (.int (1 : Int32))] [(.int (1 : Int32))])
      exact own_retN X55 hx hlk hret (by simp) (hb hby at_172) (by decide) (by decide) ⟨rfl, N55⟩
  · rw [hk45]
    show own_G p e below _ T43 (mkF m 118 #[.val (.int i0), .val (.int i1), .val (.ref a1), .val (.ref a10), .val (.int (2 : Int32)), .val (.int (i1 &&& (3 : Int32))), .unset, .unset] [])
    refine own_go (fun t k => XS.aloadN X43.here hx rfl (hb hby at_118) rfl rfl k) ?_
    show own_G p e below _ T43 (mkF m 119 #[.val (.int i0), .val (.int i1), .val (.ref a1), .val (.ref a10), .val (.int (2 : Int32)), .val (.int (i1 &&& (3 : Int32))), .unset, .unset] [(.ref a1)])
    rcases hf with hk56 | hk56 | hk56 | hk56
    · rw [hk56]
      show own_G p e below _ T43 (mkF m 119 #[.val (.int i0), .val (.int i1), .val (.ref a1), .val (.ref a10), .val (.int (2 : Int32)), .val (.int (0 : Int32)), .unset, .unset] [(.ref a1)])
      refine own_go (fun t k => XS.iload X43.here hx rfl (hb hby at_119) rfl k) ?_
      show own_G p e below _ T43 (mkF m 121 #[.val (.int i0), .val (.int i1), .val (.ref a1), .val (.ref a10), .val (.int (2 : Int32)), .val (.int (0 : Int32)), .unset, .unset] [(.int (2 : Int32)), (.ref a1)])
      refine own_go (X43.aaload hx (j := (2 : Int32)) (v := (.ref a_NULL)) (by rw [e43]; exact A44.1) (State.isArrayOf_alike hZ.alike A44.2.1) rfl A44.2.2 (own_in (n := 4) rfl (by decide)) rfl (g := (mkF m 121 #[.val (.int i0), .val (.int i1), .val (.ref a1), .val (.ref a10), .val (.int (2 : Int32)), .val (.int (0 : Int32)), .unset, .unset] [(.int (2 : Int32)), (.ref a1)])) rfl rfl (hb hby at_121)) ?_
      show own_G p e below _ T43 (mkF m 122 #[.val (.int i0), .val (.int i1), .val (.ref a1), .val (.ref a10), .val (.int (2 : Int32)), .val (.int (0 : Int32)), .unset, .unset] [(.ref a_NULL)])
      refine own_go (fun t k => XS.aloadN X43.here hx rfl (hb hby at_122) rfl rfl k) ?_
      show own_G p e below _ T43 (mkF m 123 #[.val (.int i0), .val (.int i1), .val (.ref a1), .val (.ref a10), .val (.int (2 : Int32)), .val (.int (0 : Int32)), .unset, .unset] [(.ref a1), (.ref a_NULL)])
      refine own_go (fun t k => XS.iload X43.here hx rfl (hb hby at_123) rfl k) ?_
      show own_G p e below _ T43 (mkF m 125 #[.val (.int i0), .val (.int i1), .val (.ref a1), .val (.ref a10), .val (.int (2 : Int32)), .val (.int (0 : Int32)), .unset, .unset] [(.int (0 : Int32)), (.ref a1), (.ref a_NULL)])
      refine own_go (X43.aaload hx (j := (0 : Int32)) (v := (.ref a_NOT_NULL)) (by rw [e43]; exact A44.1) (State.isArrayOf_alike hZ.alike A44.2.1) rfl A44.2.2 (own_in (n := 4) rfl (by decide)) rfl (g := (mkF m 125 #[.val (.int i0), .val (.int i1), .val (.ref a1), .val (.ref a10), .val (.int (2 : Int32)), .val (.int (0 : Int32)), .unset, .unset] [(.int (0 : Int32)), (.ref a1), (.ref a_NULL)])) rfl rfl (hb hby at_125)) ?_
      show own_G p e below _ T43 (mkF m 126 #[.val (.int i0), .val (.int i1), .val (.ref a1), .val (.ref a10), .val (.int (2 : Int32)), .val (.int (0 : Int32)), .unset, .unset] [(.ref a_NOT_NULL), (.ref a_NULL)])
      obtain ⟨T57, L57, v57, X57, ⟨rfl, rfl, q57⟩, st57⟩ := own_callV X43 hx hZ (y := (⟨"com/example/nullsight/nullsight/check/Nullness", "meet", "(Lcom/example/nullsight/nullsight/check/Nullness;)Lcom/example/nullsight/nullsight/check/Nullness;"⟩ : MethodName)) (z := (⟨"com/example/nullsight/nullsight/check/Nullness", "meet", "(Lcom/example/nullsight/nullsight/check/Nullness;)Lcom/example/nullsight/nullsight/check/Nullness;"⟩ : MethodName)) hown (hw _ (List.mem_of_getElem? (i := 13) rfl)) (hw _ (List.mem_of_getElem? (i := 14) rfl)) (hw _ (List.mem_of_getElem? (i := 16) rfl)) (hw _ (List.mem_of_getElem? (i := 16) rfl)) (hw _ (List.mem_of_getElem? (i := 15) rfl)) (hw _ (List.mem_of_getElem? (i := 17) rfl)) (hw _ (List.mem_of_getElem? (i := 3) rfl)) (notFace_of_selects (args := #[]) (mvT hZ (hw _ (List.mem_of_getElem? (i := 16) rfl)))) (by decide) (c_meet l Z a0 hw a_NOT_NULL a_UNKNOWN a_NULL a_NULLABLE a_NULL a_NOT_NULL h43 (own_B_ext x43 B) ) e43 (E_NULL.ext x43) (argsL := [(.ref a_NOT_NULL)]) (rest := []) (g := (mkF m 126 #[.val (.int i0), .val (.int i1), .val (.ref a1), .val (.ref a10), .val (.int (2 : Int32)), .val (.int (0 : Int32)), .unset, .unset] [(.ref a_NOT_NULL), (.ref a_NULL)])) rfl (by rw [hml]; rfl) (ps := [(.object "com/example/nullsight/nullsight/check/Nullness")]) (r := (some (.object "com/example/nullsight/nullsight/check/Nullness"))) (by decide +kernel) rfl rfl (W := 0) (by show 2 * 0 + _ ≤ _; exact Nat.le_of_eq rfl) (hb hby at_126) (by decide) (by decide) (by decide) (by decide)
      have N57 := Fr.app N43 (Fr.nil n0)
      refine own_go st57 ?_
      show own_G p e below _ T57 (mkF m 129 #[.val (.int i0), .val (.int i1), .val (.ref a1), .val (.ref a10), .val (.int (2 : Int32)), .val (.int (0 : Int32)), .unset, .unset] [(own_meet a_NOT_NULL a_UNKNOWN a_NULL a_NULLABLE a_NULL a_NOT_NULL)])
      have r57 : (own_meet a_NOT_NULL a_UNKNOWN a_NULL a_NULLABLE a_NULL a_NOT_NULL) = .null := by unfold own_meet; rw [if_neg (Fld.ne F_NULL_ordinal F_NOT_NULL_ordinal (own_neV (by decide))), if_pos (rfl : a_NULL = a_NULL), if_pos (rfl : a_NOT_NULL = a_NOT_NULL), if_neg (Fld.ne F_NULL_ordinal F_NOT_NULL_ordinal (own_neV (by decide)))]
      rw [r57]
      show own_G p e below _ T57 (mkF m 129 #[.val (.int i0), .val (.int i1), .val (.ref a1), .val (.ref a10), .val (.int (2 : Int32)), .val (.int (0 : Int32)), .unset, .unset] [.null])
      refine own_go (fun t k => XS.astore X57.here hx rfl (hb hby at_129) rfl rfl (l' := #[.val (.int i0), .val (.int i1), .val (.ref a1), .val (.ref a10), .val (.int (2 : Int32)), .val (.int (0 : Int32)), .val .null, .unset]) rfl k) ?_
      show own_G p e below _ T57 (mkF m 131 #[.val (.int i0), .val (.int i1), .val (.ref a1), .val (.ref a10), .val (.int (2 : Int32)), .val (.int (0 : Int32)), .val .null, .unset] [])
      refine own_go (fun t k => XS.aloadN X57.here hx rfl (hb hby at_131) rfl rfl k) ?_
      show own_G p e below _ T57 (mkF m 132 #[.val (.int i0), .val (.int i1), .val (.ref a1), .val (.ref a10), .val (.int (2 : Int32)), .val (.int (0 : Int32)), .val .null, .unset] [(.ref a10)])
      refine own_go (fun t k => XS.iload X57.here hx rfl (hb hby at_132) rfl k) ?_
      show own_G p e below _ T57 (mkF m 134 #[.val (.int i0), .val (.int i1), .val (.ref a1), .val (.ref a10), .val (.int (2 : Int32)), .val (.int (0 : Int32)), .val .null, .unset] [(.int (2 : Int32)), (.ref a10)])
      refine own_go (fun t k => XS.iconst X57.here hx rfl (hb hby at_134) k) ?_
      show own_G p e below _ T57 (mkF m 135 #[.val (.int i0), .val (.int i1), .val (.ref a1), .val (.ref a10), .val (.int (2 : Int32)), .val (.int (0 : Int32)), .val .null, .unset] [(.int (4 : Int32)), (.int (2 : Int32)), (.ref a10)])
      refine own_go (fun t k => XS.imul X57.here hx rfl (hb hby at_135) rfl k) ?_
      show own_G p e below _ T57 (mkF m 136 #[.val (.int i0), .val (.int i1), .val (.ref a1), .val (.ref a10), .val (.int (2 : Int32)), .val (.int (0 : Int32)), .val .null, .unset] [(.int (8 : Int32)), (.ref a10)])
      refine own_go (fun t k => XS.iload X57.here hx rfl (hb hby at_136) rfl k) ?_
      show own_G p e below _ T57 (mkF m 138 #[.val (.int i0), .val (.int i1), .val (.ref a1), .val (.ref a10), .val (.int (2 : Int32)), .val (.int (0 : Int32)), .val .null, .unset] [(.int (0 : Int32)), (.int (8 : Int32)), (.ref a10)])
      refine own_go (fun t k => XS.iadd X57.here hx rfl (hb hby at_138) rfl k) ?_
      show own_G p e below _ T57 (mkF m 139 #[.val (.int i0), .val (.int i1), .val (.ref a1), .val (.ref a10), .val (.int (2 : Int32)), .val (.int (0 : Int32)), .val .null, .unset] [(.int (8 : Int32)), (.ref a10)])
      refine own_go (X57.iaload hx (j := (8 : Int32)) (v := (.int (-1 : Int32))) (by rw [q57]; exact A43.1) (State.isArrayOf_alike hZ.alike A43.2.1) A43.2.2 (own_in (n := 16) rfl (by decide)) rfl (g := (mkF m 139 #[.val (.int i0), .val (.int i1), .val (.ref a1), .val (.ref a10), .val (.int (2 : Int32)), .val (.int (0 : Int32)), .val .null, .unset] [(.int (8 : Int32)), (.ref a10)])) rfl rfl (hb hby at_139)) ?_
      show own_G p e below _ T57 (mkF m 140 #[.val (.int i0), .val (.int i1), .val (.ref a1), .val (.ref a10), .val (.int (2 : Int32)), .val (.int (0 : Int32)), .val .null, .unset] [(.int (-1 : Int32))])
      refine own_go (fun t k => XS.istore X57.here hx rfl (hb hby at_140) rfl (l' := #[.val (.int i0), .val (.int i1), .val (.ref a1), .val (.ref a10), .val (.int (2 : Int32)), .val (.int (0 : Int32)), .val .null, .val (.int (-1 : Int32))]) rfl k) ?_
      show own_G p e below _ T57 (mkF m 142 #[.val (.int i0), .val (.int i1), .val (.ref a1), .val (.ref a10), .val (.int (2 : Int32)), .val (.int (0 : Int32)), .val .null, .val (.int (-1 : Int32))] [])
      refine own_go (fun t k => XS.iload X57.here hx rfl (hb hby at_142) rfl k) ?_
      show own_G p e below _ T57 (mkF m 144 #[.val (.int i0), .val (.int i1), .val (.ref a1), .val (.ref a10), .val (.int (2 : Int32)), .val (.int (0 : Int32)), .val .null, .val (.int (-1 : Int32))] [(.int (-1 : Int32))])
      refine own_go (fun t k => XS.ifNo X57.here hx rfl (hb hby at_144) rfl (by decide) k) ?_
      show own_G p e below _ T57 (mkF m 147 #[.val (.int i0), .val (.int i1), .val (.ref a1), .val (.ref a10), .val (.int (2 : Int32)), .val (.int (0 : Int32)), .val .null, .val (.int (-1 : Int32))] [])
      refine own_go (fun t k => XS.aload X57.here hx rfl (hb hby at_147) rfl rfl k) ?_
      show own_G p e below _ T57 (mkF m 149 #[.val (.int i0), .val (.int i1), .val (.ref a1), .val (.ref a10), .val (.int (2 : Int32)), .val (.int (0 : Int32)), .val .null, .val (.int (-1 : Int32))] [.null])
      refine own_go (fun t k => XT.ifnonnullNo X57.here hx rfl (hb hby at_149) rfl k) ?_
      show own_G p e below _ T57 (mkF m 152 #[.val (.int i0), .val (.int i1), .val (.ref a1), .val (.ref a10), .val (.int (2 : Int32)), .val (.int (0 : Int32)), .val .null, .val (.int (-1 : Int32))] [])
      refine own_go (fun t k => XS.iconst X57.here hx rfl (hb hby at_152) k) ?_
      show own_G p e below _ T57 (mkF m 153 #[.val (.int i0), .val (.int i1), .val (.ref a1), .val (.ref a10), .val (.int (2 : Int32)), .val (.int (0 : Int32)), .val .null, .val (.int (-1 : Int32))] [(.int (1 : Int32))])
      refine own_go (fun t k => XS.goto X57.here hx rfl (pc0 := 153) (pc' := 157) rfl (hb hby at_153) (by decide) (by decide) k) ?_
      show own_G p e below _ T57 (mkF m 157 #[.val (.int i0), .val (.int i1), .val (.ref a1), .val (.ref a10), .val (.int (2 : Int32)), .val (.int (0 : Int32)), .val .null, .val (.int (-1 : Int32))] [(.int (1 : Int32))])
      exact own_retN X57 hx hlk hret (by simp) (hb hby at_157) (by decide) (by decide) ⟨rfl, N57⟩
    · rw [hk56]
      show own_G p e below _ T43 (mkF m 119 #[.val (.int i0), .val (.int i1), .val (.ref a1), .val (.ref a10), .val (.int (2 : Int32)), .val (.int (1 : Int32)), .unset, .unset] [(.ref a1)])
      refine own_go (fun t k => XS.iload X43.here hx rfl (hb hby at_119) rfl k) ?_
      show own_G p e below _ T43 (mkF m 121 #[.val (.int i0), .val (.int i1), .val (.ref a1), .val (.ref a10), .val (.int (2 : Int32)), .val (.int (1 : Int32)), .unset, .unset] [(.int (2 : Int32)), (.ref a1)])
      refine own_go (X43.aaload hx (j := (2 : Int32)) (v := (.ref a_NULL)) (by rw [e43]; exact A44.1) (State.isArrayOf_alike hZ.alike A44.2.1) rfl A44.2.2 (own_in (n := 4) rfl (by decide)) rfl (g := (mkF m 121 #[.val (.int i0), .val (.int i1), .val (.ref a1), .val (.ref a10), .val (.int (2 : Int32)), .val (.int (1 : Int32)), .unset, .unset] [(.int (2 : Int32)), (.ref a1)])) rfl rfl (hb hby at_121)) ?_
      show own_G p e below _ T43 (mkF m 122 #[.val (.int i0), .val (.int i1), .val (.ref a1), .val (.ref a10), .val (.int (2 : Int32)), .val (.int (1 : Int32)), .unset, .unset] [(.ref a_NULL)])
      refine own_go (fun t k => XS.aloadN X43.here hx rfl (hb hby at_122) rfl rfl k) ?_
      show own_G p e below _ T43 (mkF m 123 #[.val (.int i0), .val (.int i1), .val (.ref a1), .val (.ref a10), .val (.int (2 : Int32)), .val (.int (1 : Int32)), .unset, .unset] [(.ref a1), (.ref a_NULL)])
      refine own_go (fun t k => XS.iload X43.here hx rfl (hb hby at_123) rfl k) ?_
      show own_G p e below _ T43 (mkF m 125 #[.val (.int i0), .val (.int i1), .val (.ref a1), .val (.ref a10), .val (.int (2 : Int32)), .val (.int (1 : Int32)), .unset, .unset] [(.int (1 : Int32)), (.ref a1), (.ref a_NULL)])
      refine own_go (X43.aaload hx (j := (1 : Int32)) (v := (.ref a_UNKNOWN)) (by rw [e43]; exact A44.1) (State.isArrayOf_alike hZ.alike A44.2.1) rfl A44.2.2 (own_in (n := 4) rfl (by decide)) rfl (g := (mkF m 125 #[.val (.int i0), .val (.int i1), .val (.ref a1), .val (.ref a10), .val (.int (2 : Int32)), .val (.int (1 : Int32)), .unset, .unset] [(.int (1 : Int32)), (.ref a1), (.ref a_NULL)])) rfl rfl (hb hby at_125)) ?_
      show own_G p e below _ T43 (mkF m 126 #[.val (.int i0), .val (.int i1), .val (.ref a1), .val (.ref a10), .val (.int (2 : Int32)), .val (.int (1 : Int32)), .unset, .unset] [(.ref a_UNKNOWN), (.ref a_NULL)])
      obtain ⟨T58, L58, v58, X58, ⟨rfl, rfl, q58⟩, st58⟩ := own_callV X43 hx hZ (y := (⟨"com/example/nullsight/nullsight/check/Nullness", "meet", "(Lcom/example/nullsight/nullsight/check/Nullness;)Lcom/example/nullsight/nullsight/check/Nullness;"⟩ : MethodName)) (z := (⟨"com/example/nullsight/nullsight/check/Nullness", "meet", "(Lcom/example/nullsight/nullsight/check/Nullness;)Lcom/example/nullsight/nullsight/check/Nullness;"⟩ : MethodName)) hown (hw _ (List.mem_of_getElem? (i := 13) rfl)) (hw _ (List.mem_of_getElem? (i := 14) rfl)) (hw _ (List.mem_of_getElem? (i := 16) rfl)) (hw _ (List.mem_of_getElem? (i := 16) rfl)) (hw _ (List.mem_of_getElem? (i := 15) rfl)) (hw _ (List.mem_of_getElem? (i := 17) rfl)) (hw _ (List.mem_of_getElem? (i := 3) rfl)) (notFace_of_selects (args := #[]) (mvT hZ (hw _ (List.mem_of_getElem? (i := 16) rfl)))) (by decide) (c_meet l Z a0 hw a_NOT_NULL a_UNKNOWN a_NULL a_NULLABLE a_NULL a_UNKNOWN h43 (own_B_ext x43 B) ) e43 (E_NULL.ext x43) (argsL := [(.ref a_UNKNOWN)]) (rest := []) (g := (mkF m 126 #[.val (.int i0), .val (.int i1), .val (.ref a1), .val (.ref a10), .val (.int (2 : Int32)), .val (.int (1 : Int32)), .unset, .unset] [(.ref a_UNKNOWN), (.ref a_NULL)])) rfl (by rw [hml]; rfl) (ps := [(.object "com/example/nullsight/nullsight/check/Nullness")]) (r := (some (.object "com/example/nullsight/nullsight/check/Nullness"))) (by decide +kernel) rfl rfl (W := 0) (by show 2 * 0 + _ ≤ _; exact Nat.le_of_eq rfl) (hb hby at_126) (by decide) (by decide) (by decide) (by decide)
      have N58 := Fr.app N43 (Fr.nil n0)
      refine own_go st58 ?_
      show own_G p e below _ T58 (mkF m 129 #[.val (.int i0), .val (.int i1), .val (.ref a1), .val (.ref a10), .val (.int (2 : Int32)), .val (.int (1 : Int32)), .unset, .unset] [(own_meet a_NOT_NULL a_UNKNOWN a_NULL a_NULLABLE a_NULL a_UNKNOWN)])
      have r58 : (own_meet a_NOT_NULL a_UNKNOWN a_NULL a_NULLABLE a_NULL a_UNKNOWN) = (.ref a_NULL) := by unfold own_meet; rw [if_neg (Fld.ne F_NULL_ordinal F_NOT_NULL_ordinal (own_neV (by decide))), if_pos (rfl : a_NULL = a_NULL), if_neg (Fld.ne F_UNKNOWN_ordinal F_NOT_NULL_ordinal (own_neV (by decide))), if_neg (Fld.ne F_UNKNOWN_ordinal F_NULL_ordinal (own_neV (by decide))), if_neg (Fld.ne F_NULL_ordinal F_UNKNOWN_ordinal (own_neV (by decide)))]
      rw [r58]
      show own_G p e below _ T58 (mkF m 129 #[.val (.int i0), .val (.int i1), .val (.ref a1), .val (.ref a10), .val (.int (2 : Int32)), .val (.int (1 : Int32)), .unset, .unset] [(.ref a_NULL)])
      refine own_go (fun t k => XS.astore X58.here hx rfl (hb hby at_129) rfl rfl (l' := #[.val (.int i0), .val (.int i1), .val (.ref a1), .val (.ref a10), .val (.int (2 : Int32)), .val (.int (1 : Int32)), .val (.ref a_NULL), .unset]) rfl k) ?_
      show own_G p e below _ T58 (mkF m 131 #[.val (.int i0), .val (.int i1), .val (.ref a1), .val (.ref a10), .val (.int (2 : Int32)), .val (.int (1 : Int32)), .val (.ref a_NULL), .unset] [])
      refine own_go (fun t k => XS.aloadN X58.here hx rfl (hb hby at_131) rfl rfl k) ?_
      show own_G p e below _ T58 (mkF m 132 #[.val (.int i0), .val (.int i1), .val (.ref a1), .val (.ref a10), .val (.int (2 : Int32)), .val (.int (1 : Int32)), .val (.ref a_NULL), .unset] [(.ref a10)])
      refine own_go (fun t k => XS.iload X58.here hx rfl (hb hby at_132) rfl k) ?_
      show own_G p e below _ T58 (mkF m 134 #[.val (.int i0), .val (.int i1), .val (.ref a1), .val (.ref a10), .val (.int (2 : Int32)), .val (.int (1 : Int32)), .val (.ref a_NULL), .unset] [(.int (2 : Int32)), (.ref a10)])
      refine own_go (fun t k => XS.iconst X58.here hx rfl (hb hby at_134) k) ?_
      show own_G p e below _ T58 (mkF m 135 #[.val (.int i0), .val (.int i1), .val (.ref a1), .val (.ref a10), .val (.int (2 : Int32)), .val (.int (1 : Int32)), .val (.ref a_NULL), .unset] [(.int (4 : Int32)), (.int (2 : Int32)), (.ref a10)])
      refine own_go (fun t k => XS.imul X58.here hx rfl (hb hby at_135) rfl k) ?_
      show own_G p e below _ T58 (mkF m 136 #[.val (.int i0), .val (.int i1), .val (.ref a1), .val (.ref a10), .val (.int (2 : Int32)), .val (.int (1 : Int32)), .val (.ref a_NULL), .unset] [(.int (8 : Int32)), (.ref a10)])
      refine own_go (fun t k => XS.iload X58.here hx rfl (hb hby at_136) rfl k) ?_
      show own_G p e below _ T58 (mkF m 138 #[.val (.int i0), .val (.int i1), .val (.ref a1), .val (.ref a10), .val (.int (2 : Int32)), .val (.int (1 : Int32)), .val (.ref a_NULL), .unset] [(.int (1 : Int32)), (.int (8 : Int32)), (.ref a10)])
      refine own_go (fun t k => XS.iadd X58.here hx rfl (hb hby at_138) rfl k) ?_
      show own_G p e below _ T58 (mkF m 139 #[.val (.int i0), .val (.int i1), .val (.ref a1), .val (.ref a10), .val (.int (2 : Int32)), .val (.int (1 : Int32)), .val (.ref a_NULL), .unset] [(.int (9 : Int32)), (.ref a10)])
      refine own_go (X58.iaload hx (j := (9 : Int32)) (v := (.int (2 : Int32))) (by rw [q58]; exact A43.1) (State.isArrayOf_alike hZ.alike A43.2.1) A43.2.2 (own_in (n := 16) rfl (by decide)) rfl (g := (mkF m 139 #[.val (.int i0), .val (.int i1), .val (.ref a1), .val (.ref a10), .val (.int (2 : Int32)), .val (.int (1 : Int32)), .val (.ref a_NULL), .unset] [(.int (9 : Int32)), (.ref a10)])) rfl rfl (hb hby at_139)) ?_
      show own_G p e below _ T58 (mkF m 140 #[.val (.int i0), .val (.int i1), .val (.ref a1), .val (.ref a10), .val (.int (2 : Int32)), .val (.int (1 : Int32)), .val (.ref a_NULL), .unset] [(.int (2 : Int32))])
      refine own_go (fun t k => XS.istore X58.here hx rfl (hb hby at_140) rfl (l' := #[.val (.int i0), .val (.int i1), .val (.ref a1), .val (.ref a10), .val (.int (2 : Int32)), .val (.int (1 : Int32)), .val (.ref a_NULL), .val (.int (2 : Int32))]) rfl k) ?_
      show own_G p e below _ T58 (mkF m 142 #[.val (.int i0), .val (.int i1), .val (.ref a1), .val (.ref a10), .val (.int (2 : Int32)), .val (.int (1 : Int32)), .val (.ref a_NULL), .val (.int (2 : Int32))] [])
      refine own_go (fun t k => XS.iload X58.here hx rfl (hb hby at_142) rfl k) ?_
      show own_G p e below _ T58 (mkF m 144 #[.val (.int i0), .val (.int i1), .val (.ref a1), .val (.ref a10), .val (.int (2 : Int32)), .val (.int (1 : Int32)), .val (.ref a_NULL), .val (.int (2 : Int32))] [(.int (2 : Int32))])
      refine own_go (fun t k => XS.ifYes X58.here hx rfl (pc0 := 144) (pc' := 158) rfl (hb hby at_144) rfl (by decide) (by decide) (by decide) k) ?_
      show own_G p e below _ T58 (mkF m 158 #[.val (.int i0), .val (.int i1), .val (.ref a1), .val (.ref a10), .val (.int (2 : Int32)), .val (.int (1 : Int32)), .val (.ref a_NULL), .val (.int (2 : Int32))] [])
      refine own_go (fun t k => XS.aload X58.here hx rfl (hb hby at_158) rfl rfl k) ?_
      show own_G p e below _ T58 (mkF m 160 #[.val (.int i0), .val (.int i1), .val (.ref a1), .val (.ref a10), .val (.int (2 : Int32)), .val (.int (1 : Int32)), .val (.ref a_NULL), .val (.int (2 : Int32))] [(.ref a_NULL)])
      refine own_go (fun t k => XS.aloadN X58.here hx rfl (hb hby at_160) rfl rfl k) ?_
      show own_G p e below _ T58 (mkF m 161 #[.val (.int i0), .val (.int i1), .val (.ref a1), .val (.ref a10), .val (.int (2 : Int32)), .val (.int (1 : Int32)), .val (.ref a_NULL), .val (.int (2 : Int32))] [(.ref a1), (.ref a_NULL)])
      refine own_go (fun t k => XS.iload X58.here hx rfl (hb hby at_161) rfl k) ?_
      show own_G p e below _ T58 (mkF m 163 #[.val (.int i0), .val (.int i1), .val (.ref a1), .val (.ref a10), .val (.int (2 : Int32)), .val (.int (1 : Int32)), .val (.ref a_NULL), .val (.int (2 : Int32))] [(.int (2 : Int32)), (.ref a1), (.ref a_NULL)])
      refine own_go (X58.aaload hx (j := (2 : Int32)) (v := (.ref a_NULL)) (by rw [q58]; exact A44.1) (State.isArrayOf_alike hZ.alike A44.2.1) rfl A44.2.2 (own_in (n := 4) rfl (by decide)) rfl (g := (mkF m 163 #[.val (.int i0), .val (.int i1), .val (.ref a1), .val (.ref a10), .val (.int (2 : Int32)), .val (.int (1 : Int32)), .val (.ref a_NULL), .val (.int (2 : Int32))] [(.int (2 : Int32)), (.ref a1), (.ref a_NULL)])) rfl rfl (hb hby at_163)) ?_
      show own_G p e below _ T58 (mkF m 164 #[.val (.int i0), .val (.int i1), .val (.ref a1), .val (.ref a10), .val (.int (2 : Int32)), .val (.int (1 : Int32)), .val (.ref a_NULL), .val (.int (2 : Int32))] [(.ref a_NULL), (.ref a_NULL)])
      refine own_go (fun t k => Jvm.Free.XT.acmpNo X58.here hx rfl (hb hby at_164) rfl rfl rfl (own_acnF rfl) k) ?_
      show own_G p e below _ T58 (mkF m 167 #[.val (.int i0), .val (.int i1), .val (.ref a1), .val (.ref a10), .val (.int (2 : Int32)), .val (.int (1 : Int32)), .val (.ref a_NULL), .val (.int (2 : Int32))] [])
      refine own_go (fun t k => XS.iconst X58.here hx rfl (hb hby at_167) k) ?_
      show own_G p e below _ T58 (mkF m 168 #[.val (.int i0), .val (.int i1), .val (.ref a1), .val (.ref a10), .val (.int (2 : Int32)), .val (.int (1 : Int32)), .val (.ref a_NULL), .val (.int (2 : Int32))] [(.int (1 : Int32))])
      refine own_go (fun t k => XS.goto X58.here hx rfl (pc0 := 168) (pc' := 172) rfl (hb hby at_168) (by decide) (by decide) k) ?_
      show own_G p e below _ T58 (mkF m 172 #[.val (.int i0), .val (.int i1), .val (.ref a1), .val (.ref a10), .val (.int (2 : Int32)), .val (.int (1 : Int32)), .val (.ref a_NULL), .val (.int (2 : Int32))] [(.int (1 : Int32))])
      exact own_retN X58 hx hlk hret (by simp) (hb hby at_172) (by decide) (by decide) ⟨rfl, N58⟩
    · rw [hk56]
      show own_G p e below _ T43 (mkF m 119 #[.val (.int i0), .val (.int i1), .val (.ref a1), .val (.ref a10), .val (.int (2 : Int32)), .val (.int (2 : Int32)), .unset, .unset] [(.ref a1)])
      refine own_go (fun t k => XS.iload X43.here hx rfl (hb hby at_119) rfl k) ?_
      show own_G p e below _ T43 (mkF m 121 #[.val (.int i0), .val (.int i1), .val (.ref a1), .val (.ref a10), .val (.int (2 : Int32)), .val (.int (2 : Int32)), .unset, .unset] [(.int (2 : Int32)), (.ref a1)])
      refine own_go (X43.aaload hx (j := (2 : Int32)) (v := (.ref a_NULL)) (by rw [e43]; exact A44.1) (State.isArrayOf_alike hZ.alike A44.2.1) rfl A44.2.2 (own_in (n := 4) rfl (by decide)) rfl (g := (mkF m 121 #[.val (.int i0), .val (.int i1), .val (.ref a1), .val (.ref a10), .val (.int (2 : Int32)), .val (.int (2 : Int32)), .unset, .unset] [(.int (2 : Int32)), (.ref a1)])) rfl rfl (hb hby at_121)) ?_
      show own_G p e below _ T43 (mkF m 122 #[.val (.int i0), .val (.int i1), .val (.ref a1), .val (.ref a10), .val (.int (2 : Int32)), .val (.int (2 : Int32)), .unset, .unset] [(.ref a_NULL)])
      refine own_go (fun t k => XS.aloadN X43.here hx rfl (hb hby at_122) rfl rfl k) ?_
      show own_G p e below _ T43 (mkF m 123 #[.val (.int i0), .val (.int i1), .val (.ref a1), .val (.ref a10), .val (.int (2 : Int32)), .val (.int (2 : Int32)), .unset, .unset] [(.ref a1), (.ref a_NULL)])
      refine own_go (fun t k => XS.iload X43.here hx rfl (hb hby at_123) rfl k) ?_
      show own_G p e below _ T43 (mkF m 125 #[.val (.int i0), .val (.int i1), .val (.ref a1), .val (.ref a10), .val (.int (2 : Int32)), .val (.int (2 : Int32)), .unset, .unset] [(.int (2 : Int32)), (.ref a1), (.ref a_NULL)])
      refine own_go (X43.aaload hx (j := (2 : Int32)) (v := (.ref a_NULL)) (by rw [e43]; exact A44.1) (State.isArrayOf_alike hZ.alike A44.2.1) rfl A44.2.2 (own_in (n := 4) rfl (by decide)) rfl (g := (mkF m 125 #[.val (.int i0), .val (.int i1), .val (.ref a1), .val (.ref a10), .val (.int (2 : Int32)), .val (.int (2 : Int32)), .unset, .unset] [(.int (2 : Int32)), (.ref a1), (.ref a_NULL)])) rfl rfl (hb hby at_125)) ?_
      show own_G p e below _ T43 (mkF m 126 #[.val (.int i0), .val (.int i1), .val (.ref a1), .val (.ref a10), .val (.int (2 : Int32)), .val (.int (2 : Int32)), .unset, .unset] [(.ref a_NULL), (.ref a_NULL)])
      obtain ⟨T59, L59, v59, X59, ⟨rfl, rfl, q59⟩, st59⟩ := own_callV X43 hx hZ (y := (⟨"com/example/nullsight/nullsight/check/Nullness", "meet", "(Lcom/example/nullsight/nullsight/check/Nullness;)Lcom/example/nullsight/nullsight/check/Nullness;"⟩ : MethodName)) (z := (⟨"com/example/nullsight/nullsight/check/Nullness", "meet", "(Lcom/example/nullsight/nullsight/check/Nullness;)Lcom/example/nullsight/nullsight/check/Nullness;"⟩ : MethodName)) hown (hw _ (List.mem_of_getElem? (i := 13) rfl)) (hw _ (List.mem_of_getElem? (i := 14) rfl)) (hw _ (List.mem_of_getElem? (i := 16) rfl)) (hw _ (List.mem_of_getElem? (i := 16) rfl)) (hw _ (List.mem_of_getElem? (i := 15) rfl)) (hw _ (List.mem_of_getElem? (i := 17) rfl)) (hw _ (List.mem_of_getElem? (i := 3) rfl)) (notFace_of_selects (args := #[]) (mvT hZ (hw _ (List.mem_of_getElem? (i := 16) rfl)))) (by decide) (c_meet l Z a0 hw a_NOT_NULL a_UNKNOWN a_NULL a_NULLABLE a_NULL a_NULL h43 (own_B_ext x43 B) ) e43 (E_NULL.ext x43) (argsL := [(.ref a_NULL)]) (rest := []) (g := (mkF m 126 #[.val (.int i0), .val (.int i1), .val (.ref a1), .val (.ref a10), .val (.int (2 : Int32)), .val (.int (2 : Int32)), .unset, .unset] [(.ref a_NULL), (.ref a_NULL)])) rfl (by rw [hml]; rfl) (ps := [(.object "com/example/nullsight/nullsight/check/Nullness")]) (r := (some (.object "com/example/nullsight/nullsight/check/Nullness"))) (by decide +kernel) rfl rfl (W := 0) (by show 2 * 0 + _ ≤ _; exact Nat.le_of_eq rfl) (hb hby at_126) (by decide) (by decide) (by decide) (by decide)
      have N59 := Fr.app N43 (Fr.nil n0)
      refine own_go st59 ?_
      show own_G p e below _ T59 (mkF m 129 #[.val (.int i0), .val (.int i1), .val (.ref a1), .val (.ref a10), .val (.int (2 : Int32)), .val (.int (2 : Int32)), .unset, .unset] [(own_meet a_NOT_NULL a_UNKNOWN a_NULL a_NULLABLE a_NULL a_NULL)])
      have r59 : (own_meet a_NOT_NULL a_UNKNOWN a_NULL a_NULLABLE a_NULL a_NULL) = (.ref a_NULL) := by unfold own_meet; rw [if_neg (Fld.ne F_NULL_ordinal F_NOT_NULL_ordinal (own_neV (by decide))), if_pos (rfl : a_NULL = a_NULL), if_neg (Fld.ne F_NULL_ordinal F_NOT_NULL_ordinal (own_neV (by decide))), if_pos (rfl : a_NULL = a_NULL), if_pos (rfl : a_NULL = a_NULL)]
      rw [r59]
      show own_G p e below _ T59 (mkF m 129 #[.val (.int i0), .val (.int i1), .val (.ref a1), .val (.ref a10), .val (.int (2 : Int32)), .val (.int (2 : Int32)), .unset, .unset] [(.ref a_NULL)])
      refine own_go (fun t k => XS.astore X59.here hx rfl (hb hby at_129) rfl rfl (l' := #[.val (.int i0), .val (.int i1), .val (.ref a1), .val (.ref a10), .val (.int (2 : Int32)), .val (.int (2 : Int32)), .val (.ref a_NULL), .unset]) rfl k) ?_
      show own_G p e below _ T59 (mkF m 131 #[.val (.int i0), .val (.int i1), .val (.ref a1), .val (.ref a10), .val (.int (2 : Int32)), .val (.int (2 : Int32)), .val (.ref a_NULL), .unset] [])
      refine own_go (fun t k => XS.aloadN X59.here hx rfl (hb hby at_131) rfl rfl k) ?_
      show own_G p e below _ T59 (mkF m 132 #[.val (.int i0), .val (.int i1), .val (.ref a1), .val (.ref a10), .val (.int (2 : Int32)), .val (.int (2 : Int32)), .val (.ref a_NULL), .unset] [(.ref a10)])
      refine own_go (fun t k => XS.iload X59.here hx rfl (hb hby at_132) rfl k) ?_
      show own_G p e below _ T59 (mkF m 134 #[.val (.int i0), .val (.int i1), .val (.ref a1), .val (.ref a10), .val (.int (2 : Int32)), .val (.int (2 : Int32)), .val (.ref a_NULL), .unset] [(.int (2 : Int32)), (.ref a10)])
      refine own_go (fun t k => XS.iconst X59.here hx rfl (hb hby at_134) k) ?_
      show own_G p e below _ T59 (mkF m 135 #[.val (.int i0), .val (.int i1), .val (.ref a1), .val (.ref a10), .val (.int (2 : Int32)), .val (.int (2 : Int32)), .val (.ref a_NULL), .unset] [(.int (4 : Int32)), (.int (2 : Int32)), (.ref a10)])
      refine own_go (fun t k => XS.imul X59.here hx rfl (hb hby at_135) rfl k) ?_
      show own_G p e below _ T59 (mkF m 136 #[.val (.int i0), .val (.int i1), .val (.ref a1), .val (.ref a10), .val (.int (2 : Int32)), .val (.int (2 : Int32)), .val (.ref a_NULL), .unset] [(.int (8 : Int32)), (.ref a10)])
      refine own_go (fun t k => XS.iload X59.here hx rfl (hb hby at_136) rfl k) ?_
      show own_G p e below _ T59 (mkF m 138 #[.val (.int i0), .val (.int i1), .val (.ref a1), .val (.ref a10), .val (.int (2 : Int32)), .val (.int (2 : Int32)), .val (.ref a_NULL), .unset] [(.int (2 : Int32)), (.int (8 : Int32)), (.ref a10)])
      refine own_go (fun t k => XS.iadd X59.here hx rfl (hb hby at_138) rfl k) ?_
      show own_G p e below _ T59 (mkF m 139 #[.val (.int i0), .val (.int i1), .val (.ref a1), .val (.ref a10), .val (.int (2 : Int32)), .val (.int (2 : Int32)), .val (.ref a_NULL), .unset] [(.int (10 : Int32)), (.ref a10)])
      refine own_go (X59.iaload hx (j := (10 : Int32)) (v := (.int (2 : Int32))) (by rw [q59]; exact A43.1) (State.isArrayOf_alike hZ.alike A43.2.1) A43.2.2 (own_in (n := 16) rfl (by decide)) rfl (g := (mkF m 139 #[.val (.int i0), .val (.int i1), .val (.ref a1), .val (.ref a10), .val (.int (2 : Int32)), .val (.int (2 : Int32)), .val (.ref a_NULL), .unset] [(.int (10 : Int32)), (.ref a10)])) rfl rfl (hb hby at_139)) ?_
      show own_G p e below _ T59 (mkF m 140 #[.val (.int i0), .val (.int i1), .val (.ref a1), .val (.ref a10), .val (.int (2 : Int32)), .val (.int (2 : Int32)), .val (.ref a_NULL), .unset] [(.int (2 : Int32))])
      refine own_go (fun t k => XS.istore X59.here hx rfl (hb hby at_140) rfl (l' := #[.val (.int i0), .val (.int i1), .val (.ref a1), .val (.ref a10), .val (.int (2 : Int32)), .val (.int (2 : Int32)), .val (.ref a_NULL), .val (.int (2 : Int32))]) rfl k) ?_
      show own_G p e below _ T59 (mkF m 142 #[.val (.int i0), .val (.int i1), .val (.ref a1), .val (.ref a10), .val (.int (2 : Int32)), .val (.int (2 : Int32)), .val (.ref a_NULL), .val (.int (2 : Int32))] [])
      refine own_go (fun t k => XS.iload X59.here hx rfl (hb hby at_142) rfl k) ?_
      show own_G p e below _ T59 (mkF m 144 #[.val (.int i0), .val (.int i1), .val (.ref a1), .val (.ref a10), .val (.int (2 : Int32)), .val (.int (2 : Int32)), .val (.ref a_NULL), .val (.int (2 : Int32))] [(.int (2 : Int32))])
      refine own_go (fun t k => XS.ifYes X59.here hx rfl (pc0 := 144) (pc' := 158) rfl (hb hby at_144) rfl (by decide) (by decide) (by decide) k) ?_
      show own_G p e below _ T59 (mkF m 158 #[.val (.int i0), .val (.int i1), .val (.ref a1), .val (.ref a10), .val (.int (2 : Int32)), .val (.int (2 : Int32)), .val (.ref a_NULL), .val (.int (2 : Int32))] [])
      refine own_go (fun t k => XS.aload X59.here hx rfl (hb hby at_158) rfl rfl k) ?_
      show own_G p e below _ T59 (mkF m 160 #[.val (.int i0), .val (.int i1), .val (.ref a1), .val (.ref a10), .val (.int (2 : Int32)), .val (.int (2 : Int32)), .val (.ref a_NULL), .val (.int (2 : Int32))] [(.ref a_NULL)])
      refine own_go (fun t k => XS.aloadN X59.here hx rfl (hb hby at_160) rfl rfl k) ?_
      show own_G p e below _ T59 (mkF m 161 #[.val (.int i0), .val (.int i1), .val (.ref a1), .val (.ref a10), .val (.int (2 : Int32)), .val (.int (2 : Int32)), .val (.ref a_NULL), .val (.int (2 : Int32))] [(.ref a1), (.ref a_NULL)])
      refine own_go (fun t k => XS.iload X59.here hx rfl (hb hby at_161) rfl k) ?_
      show own_G p e below _ T59 (mkF m 163 #[.val (.int i0), .val (.int i1), .val (.ref a1), .val (.ref a10), .val (.int (2 : Int32)), .val (.int (2 : Int32)), .val (.ref a_NULL), .val (.int (2 : Int32))] [(.int (2 : Int32)), (.ref a1), (.ref a_NULL)])
      refine own_go (X59.aaload hx (j := (2 : Int32)) (v := (.ref a_NULL)) (by rw [q59]; exact A44.1) (State.isArrayOf_alike hZ.alike A44.2.1) rfl A44.2.2 (own_in (n := 4) rfl (by decide)) rfl (g := (mkF m 163 #[.val (.int i0), .val (.int i1), .val (.ref a1), .val (.ref a10), .val (.int (2 : Int32)), .val (.int (2 : Int32)), .val (.ref a_NULL), .val (.int (2 : Int32))] [(.int (2 : Int32)), (.ref a1), (.ref a_NULL)])) rfl rfl (hb hby at_163)) ?_
      show own_G p e below _ T59 (mkF m 164 #[.val (.int i0), .val (.int i1), .val (.ref a1), .val (.ref a10), .val (.int (2 : Int32)), .val (.int (2 : Int32)), .val (.ref a_NULL), .val (.int (2 : Int32))] [(.ref a_NULL), (.ref a_NULL)])
      refine own_go (fun t k => Jvm.Free.XT.acmpNo X59.here hx rfl (hb hby at_164) rfl rfl rfl (own_acnF rfl) k) ?_
      show own_G p e below _ T59 (mkF m 167 #[.val (.int i0), .val (.int i1), .val (.ref a1), .val (.ref a10), .val (.int (2 : Int32)), .val (.int (2 : Int32)), .val (.ref a_NULL), .val (.int (2 : Int32))] [])
      refine own_go (fun t k => XS.iconst X59.here hx rfl (hb hby at_167) k) ?_
      show own_G p e below _ T59 (mkF m 168 #[.val (.int i0), .val (.int i1), .val (.ref a1), .val (.ref a10), .val (.int (2 : Int32)), .val (.int (2 : Int32)), .val (.ref a_NULL), .val (.int (2 : Int32))] [(.int (1 : Int32))])
      refine own_go (fun t k => XS.goto X59.here hx rfl (pc0 := 168) (pc' := 172) rfl (hb hby at_168) (by decide) (by decide) k) ?_
      show own_G p e below _ T59 (mkF m 172 #[.val (.int i0), .val (.int i1), .val (.ref a1), .val (.ref a10), .val (.int (2 : Int32)), .val (.int (2 : Int32)), .val (.ref a_NULL), .val (.int (2 : Int32))] [(.int (1 : Int32))])
      exact own_retN X59 hx hlk hret (by simp) (hb hby at_172) (by decide) (by decide) ⟨rfl, N59⟩
    · rw [hk56]
      show own_G p e below _ T43 (mkF m 119 #[.val (.int i0), .val (.int i1), .val (.ref a1), .val (.ref a10), .val (.int (2 : Int32)), .val (.int (3 : Int32)), .unset, .unset] [(.ref a1)])
      refine own_go (fun t k => XS.iload X43.here hx rfl (hb hby at_119) rfl k) ?_
      show own_G p e below _ T43 (mkF m 121 #[.val (.int i0), .val (.int i1), .val (.ref a1), .val (.ref a10), .val (.int (2 : Int32)), .val (.int (3 : Int32)), .unset, .unset] [(.int (2 : Int32)), (.ref a1)])
      refine own_go (X43.aaload hx (j := (2 : Int32)) (v := (.ref a_NULL)) (by rw [e43]; exact A44.1) (State.isArrayOf_alike hZ.alike A44.2.1) rfl A44.2.2 (own_in (n := 4) rfl (by decide)) rfl (g := (mkF m 121 #[.val (.int i0), .val (.int i1), .val (.ref a1), .val (.ref a10), .val (.int (2 : Int32)), .val (.int (3 : Int32)), .unset, .unset] [(.int (2 : Int32)), (.ref a1)])) rfl rfl (hb hby at_121)) ?_
      show own_G p e below _ T43 (mkF m 122 #[.val (.int i0), .val (.int i1), .val (.ref a1), .val (.ref a10), .val (.int (2 : Int32)), .val (.int (3 : Int32)), .unset, .unset] [(.ref a_NULL)])
      refine own_go (fun t k => XS.aloadN X43.here hx rfl (hb hby at_122) rfl rfl k) ?_
      show own_G p e below _ T43 (mkF m 123 #[.val (.int i0), .val (.int i1), .val (.ref a1), .val (.ref a10), .val (.int (2 : Int32)), .val (.int (3 : Int32)), .unset, .unset] [(.ref a1), (.ref a_NULL)])
      refine own_go (fun t k => XS.iload X43.here hx rfl (hb hby at_123) rfl k) ?_
      show own_G p e below _ T43 (mkF m 125 #[.val (.int i0), .val (.int i1), .val (.ref a1), .val (.ref a10), .val (.int (2 : Int32)), .val (.int (3 : Int32)), .unset, .unset] [(.int (3 : Int32)), (.ref a1), (.ref a_NULL)])
      refine own_go (X43.aaload hx (j := (3 : Int32)) (v := (.ref a_NULLABLE)) (by rw [e43]; exact A44.1) (State.isArrayOf_alike hZ.alike A44.2.1) rfl A44.2.2 (own_in (n := 4) rfl (by decide)) rfl (g := (mkF m 125 #[.val (.int i0), .val (.int i1), .val (.ref a1), .val (.ref a10), .val (.int (2 : Int32)), .val (.int (3 : Int32)), .unset, .unset] [(.int (3 : Int32)), (.ref a1), (.ref a_NULL)])) rfl rfl (hb hby at_125)) ?_
      show own_G p e below _ T43 (mkF m 126 #[.val (.int i0), .val (.int i1), .val (.ref a1), .val (.ref a10), .val (.int (2 : Int32)), .val (.int (3 : Int32)), .unset, .unset] [(.ref a_NULLABLE), (.ref a_NULL)])
      obtain ⟨T60, L60, v60, X60, ⟨rfl, rfl, q60⟩, st60⟩ := own_callV X43 hx hZ (y := (⟨"com/example/nullsight/nullsight/check/Nullness", "meet", "(Lcom/example/nullsight/nullsight/check/Nullness;)Lcom/example/nullsight/nullsight/check/Nullness;"⟩ : MethodName)) (z := (⟨"com/example/nullsight/nullsight/check/Nullness", "meet", "(Lcom/example/nullsight/nullsight/check/Nullness;)Lcom/example/nullsight/nullsight/check/Nullness;"⟩ : MethodName)) hown (hw _ (List.mem_of_getElem? (i := 13) rfl)) (hw _ (List.mem_of_getElem? (i := 14) rfl)) (hw _ (List.mem_of_getElem? (i := 16) rfl)) (hw _ (List.mem_of_getElem? (i := 16) rfl)) (hw _ (List.mem_of_getElem? (i := 15) rfl)) (hw _ (List.mem_of_getElem? (i := 17) rfl)) (hw _ (List.mem_of_getElem? (i := 3) rfl)) (notFace_of_selects (args := #[]) (mvT hZ (hw _ (List.mem_of_getElem? (i := 16) rfl)))) (by decide) (c_meet l Z a0 hw a_NOT_NULL a_UNKNOWN a_NULL a_NULLABLE a_NULL a_NULLABLE h43 (own_B_ext x43 B) ) e43 (E_NULL.ext x43) (argsL := [(.ref a_NULLABLE)]) (rest := []) (g := (mkF m 126 #[.val (.int i0), .val (.int i1), .val (.ref a1), .val (.ref a10), .val (.int (2 : Int32)), .val (.int (3 : Int32)), .unset, .unset] [(.ref a_NULLABLE), (.ref a_NULL)])) rfl (by rw [hml]; rfl) (ps := [(.object "com/example/nullsight/nullsight/check/Nullness")]) (r := (some (.object "com/example/nullsight/nullsight/check/Nullness"))) (by decide +kernel) rfl rfl (W := 0) (by show 2 * 0 + _ ≤ _; exact Nat.le_of_eq rfl) (hb hby at_126) (by decide) (by decide) (by decide) (by decide)
      have N60 := Fr.app N43 (Fr.nil n0)
      refine own_go st60 ?_
      show own_G p e below _ T60 (mkF m 129 #[.val (.int i0), .val (.int i1), .val (.ref a1), .val (.ref a10), .val (.int (2 : Int32)), .val (.int (3 : Int32)), .unset, .unset] [(own_meet a_NOT_NULL a_UNKNOWN a_NULL a_NULLABLE a_NULL a_NULLABLE)])
      have r60 : (own_meet a_NOT_NULL a_UNKNOWN a_NULL a_NULLABLE a_NULL a_NULLABLE) = (.ref a_NULL) := by unfold own_meet; rw [if_neg (Fld.ne F_NULL_ordinal F_NOT_NULL_ordinal (own_neV (by decide))), if_pos (rfl : a_NULL = a_NULL), if_neg (Fld.ne F_NULLABLE_ordinal F_NOT_NULL_ordinal (own_neV (by decide))), if_neg (Fld.ne F_NULLABLE_ordinal F_NULL_ordinal (own_neV (by decide))), if_neg (Fld.ne F_NULL_ordinal F_NULLABLE_ordinal (own_neV (by decide)))]
      rw [r60]
      show own_G p e below _ T60 (mkF m 129 #[.val (.int i0), .val (.int i1), .val (.ref a1), .val (.ref a10), .val (.int (2 : Int32)), .val (.int (3 : Int32)), .unset, .unset] [(.ref a_NULL)])
      refine own_go (fun t k => XS.astore X60.here hx rfl (hb hby at_129) rfl rfl (l' := #[.val (.int i0), .val (.int i1), .val (.ref a1), .val (.ref a10), .val (.int (2 : Int32)), .val (.int (3 : Int32)), .val (.ref a_NULL), .unset]) rfl k) ?_
      show own_G p e below _ T60 (mkF m 131 #[.val (.int i0), .val (.int i1), .val (.ref a1), .val (.ref a10), .val (.int (2 : Int32)), .val (.int (3 : Int32)), .val (.ref a_NULL), .unset] [])
      refine own_go (fun t k => XS.aloadN X60.here hx rfl (hb hby at_131) rfl rfl k) ?_
      show own_G p e below _ T60 (mkF m 132 #[.val (.int i0), .val (.int i1), .val (.ref a1), .val (.ref a10), .val (.int (2 : Int32)), .val (.int (3 : Int32)), .val (.ref a_NULL), .unset] [(.ref a10)])
      refine own_go (fun t k => XS.iload X60.here hx rfl (hb hby at_132) rfl k) ?_
      show own_G p e below _ T60 (mkF m 134 #[.val (.int i0), .val (.int i1), .val (.ref a1), .val (.ref a10), .val (.int (2 : Int32)), .val (.int (3 : Int32)), .val (.ref a_NULL), .unset] [(.int (2 : Int32)), (.ref a10)])
      refine own_go (fun t k => XS.iconst X60.here hx rfl (hb hby at_134) k) ?_
      show own_G p e below _ T60 (mkF m 135 #[.val (.int i0), .val (.int i1), .val (.ref a1), .val (.ref a10), .val (.int (2 : Int32)), .val (.int (3 : Int32)), .val (.ref a_NULL), .unset] [(.int (4 : Int32)), (.int (2 : Int32)), (.ref a10)])
      refine own_go (fun t k => XS.imul X60.here hx rfl (hb hby at_135) rfl k) ?_
      show own_G p e below _ T60 (mkF m 136 #[.val (.int i0), .val (.int i1), .val (.ref a1), .val (.ref a10), .val (.int (2 : Int32)), .val (.int (3 : Int32)), .val (.ref a_NULL), .unset] [(.int (8 : Int32)), (.ref a10)])
      refine own_go (fun t k => XS.iload X60.here hx rfl (hb hby at_136) rfl k) ?_
      show own_G p e below _ T60 (mkF m 138 #[.val (.int i0), .val (.int i1), .val (.ref a1), .val (.ref a10), .val (.int (2 : Int32)), .val (.int (3 : Int32)), .val (.ref a_NULL), .unset] [(.int (3 : Int32)), (.int (8 : Int32)), (.ref a10)])
      refine own_go (fun t k => XS.iadd X60.here hx rfl (hb hby at_138) rfl k) ?_
      show own_G p e below _ T60 (mkF m 139 #[.val (.int i0), .val (.int i1), .val (.ref a1), .val (.ref a10), .val (.int (2 : Int32)), .val (.int (3 : Int32)), .val (.ref a_NULL), .unset] [(.int (11 : Int32)), (.ref a10)])
      refine own_go (X60.iaload hx (j := (11 : Int32)) (v := (.int (2 : Int32))) (by rw [q60]; exact A43.1) (State.isArrayOf_alike hZ.alike A43.2.1) A43.2.2 (own_in (n := 16) rfl (by decide)) rfl (g := (mkF m 139 #[.val (.int i0), .val (.int i1), .val (.ref a1), .val (.ref a10), .val (.int (2 : Int32)), .val (.int (3 : Int32)), .val (.ref a_NULL), .unset] [(.int (11 : Int32)), (.ref a10)])) rfl rfl (hb hby at_139)) ?_
      show own_G p e below _ T60 (mkF m 140 #[.val (.int i0), .val (.int i1), .val (.ref a1), .val (.ref a10), .val (.int (2 : Int32)), .val (.int (3 : Int32)), .val (.ref a_NULL), .unset] [(.int (2 : Int32))])
      refine own_go (fun t k => XS.istore X60.here hx rfl (hb hby at_140) rfl (l' := #[.val (.int i0), .val (.int i1), .val (.ref a1), .val (.ref a10), .val (.int (2 : Int32)), .val (.int (3 : Int32)), .val (.ref a_NULL), .val (.int (2 : Int32))]) rfl k) ?_
      show own_G p e below _ T60 (mkF m 142 #[.val (.int i0), .val (.int i1), .val (.ref a1), .val (.ref a10), .val (.int (2 : Int32)), .val (.int (3 : Int32)), .val (.ref a_NULL), .val (.int (2 : Int32))] [])
      refine own_go (fun t k => XS.iload X60.here hx rfl (hb hby at_142) rfl k) ?_
      show own_G p e below _ T60 (mkF m 144 #[.val (.int i0), .val (.int i1), .val (.ref a1), .val (.ref a10), .val (.int (2 : Int32)), .val (.int (3 : Int32)), .val (.ref a_NULL), .val (.int (2 : Int32))] [(.int (2 : Int32))])
      refine own_go (fun t k => XS.ifYes X60.here hx rfl (pc0 := 144) (pc' := 158) rfl (hb hby at_144) rfl (by decide) (by decide) (by decide) k) ?_
      show own_G p e below _ T60 (mkF m 158 #[.val (.int i0), .val (.int i1), .val (.ref a1), .val (.ref a10), .val (.int (2 : Int32)), .val (.int (3 : Int32)), .val (.ref a_NULL), .val (.int (2 : Int32))] [])
      refine own_go (fun t k => XS.aload X60.here hx rfl (hb hby at_158) rfl rfl k) ?_
      show own_G p e below _ T60 (mkF m 160 #[.val (.int i0), .val (.int i1), .val (.ref a1), .val (.ref a10), .val (.int (2 : Int32)), .val (.int (3 : Int32)), .val (.ref a_NULL), .val (.int (2 : Int32))] [(.ref a_NULL)])
      refine own_go (fun t k => XS.aloadN X60.here hx rfl (hb hby at_160) rfl rfl k) ?_
      show own_G p e below _ T60 (mkF m 161 #[.val (.int i0), .val (.int i1), .val (.ref a1), .val (.ref a10), .val (.int (2 : Int32)), .val (.int (3 : Int32)), .val (.ref a_NULL), .val (.int (2 : Int32))] [(.ref a1), (.ref a_NULL)])
      refine own_go (fun t k => XS.iload X60.here hx rfl (hb hby at_161) rfl k) ?_
      show own_G p e below _ T60 (mkF m 163 #[.val (.int i0), .val (.int i1), .val (.ref a1), .val (.ref a10), .val (.int (2 : Int32)), .val (.int (3 : Int32)), .val (.ref a_NULL), .val (.int (2 : Int32))] [(.int (2 : Int32)), (.ref a1), (.ref a_NULL)])
      refine own_go (X60.aaload hx (j := (2 : Int32)) (v := (.ref a_NULL)) (by rw [q60]; exact A44.1) (State.isArrayOf_alike hZ.alike A44.2.1) rfl A44.2.2 (own_in (n := 4) rfl (by decide)) rfl (g := (mkF m 163 #[.val (.int i0), .val (.int i1), .val (.ref a1), .val (.ref a10), .val (.int (2 : Int32)), .val (.int (3 : Int32)), .val (.ref a_NULL), .val (.int (2 : Int32))] [(.int (2 : Int32)), (.ref a1), (.ref a_NULL)])) rfl rfl (hb hby at_163)) ?_
      show own_G p e below _ T60 (mkF m 164 #[.val (.int i0), .val (.int i1), .val (.ref a1), .val (.ref a10), .val (.int (2 : Int32)), .val (.int (3 : Int32)), .val (.ref a_NULL), .val (.int (2 : Int32))] [(.ref a_NULL), (.ref a_NULL)])
      refine own_go (fun t k => Jvm.Free.XT.acmpNo X60.here hx rfl (hb hby at_164) rfl rfl rfl (own_acnF rfl) k) ?_
      show own_G p e below _ T60 (mkF m 167 #[.val (.int i0), .val (.int i1), .val (.ref a1), .val (.ref a10), .val (.int (2 : Int32)), .val (.int (3 : Int32)), .val (.ref a_NULL), .val (.int (2 : Int32))] [])
      refine own_go (fun t k => XS.iconst X60.here hx rfl (hb hby at_167) k) ?_
      show own_G p e below _ T60 (mkF m 168 #[.val (.int i0), .val (.int i1), .val (.ref a1), .val (.ref a10), .val (.int (2 : Int32)), .val (.int (3 : Int32)), .val (.ref a_NULL), .val (.int (2 : Int32))] [(.int (1 : Int32))])
      refine own_go (fun t k => XS.goto X60.here hx rfl (pc0 := 168) (pc' := 172) rfl (hb hby at_168) (by decide) (by decide) k) ?_
      show own_G p e below _ T60 (mkF m 172 #[.val (.int i0), .val (.int i1), .val (.ref a1), .val (.ref a10), .val (.int (2 : Int32)), .val (.int (3 : Int32)), .val (.ref a_NULL), .val (.int (2 : Int32))] [(.int (1 : Int32))])
      exact own_retN X60 hx hlk hret (by simp) (hb hby at_172) (by decide) (by decide) ⟨rfl, N60⟩
  · rw [hk45]
    show own_G p e below _ T43 (mkF m 118 #[.val (.int i0), .val (.int i1), .val (.ref a1), .val (.ref a10), .val (.int (3 : Int32)), .val (.int (i1 &&& (3 : Int32))), .unset, .unset] [])
    refine own_go (fun t k => XS.aloadN X43.here hx rfl (hb hby at_118) rfl rfl k) ?_
    show own_G p e below _ T43 (mkF m 119 #[.val (.int i0), .val (.int i1), .val (.ref a1), .val (.ref a10), .val (.int (3 : Int32)), .val (.int (i1 &&& (3 : Int32))), .unset, .unset] [(.ref a1)])
    rcases hf with hk61 | hk61 | hk61 | hk61
    · rw [hk61]
      show own_G p e below _ T43 (mkF m 119 #[.val (.int i0), .val (.int i1), .val (.ref a1), .val (.ref a10), .val (.int (3 : Int32)), .val (.int (0 : Int32)), .unset, .unset] [(.ref a1)])
      refine own_go (fun t k => XS.iload X43.here hx rfl (hb hby at_119) rfl k) ?_
      show own_G p e below _ T43 (mkF m 121 #[.val (.int i0), .val (.int i1), .val (.ref a1), .val (.ref a10), .val (.int (3 : Int32)), .val (.int (0 : Int32)), .unset, .unset] [(.int (3 : Int32)), (.ref a1)])
      refine own_go (X43.aaload hx (j := (3 : Int32)) (v := (.ref a_NULLABLE)) (by rw [e43]; exact A44.1) (State.isArrayOf_alike hZ.alike A44.2.1) rfl A44.2.2 (own_in (n := 4) rfl (by decide)) rfl (g := (mkF m 121 #[.val (.int i0), .val (.int i1), .val (.ref a1), .val (.ref a10), .val (.int (3 : Int32)), .val (.int (0 : Int32)), .unset, .unset] [(.int (3 : Int32)), (.ref a1)])) rfl rfl (hb hby at_121)) ?_
      show own_G p e below _ T43 (mkF m 122 #[.val (.int i0), .val (.int i1), .val (.ref a1), .val (.ref a10), .val (.int (3 : Int32)), .val (.int (0 : Int32)), .unset, .unset] [(.ref a_NULLABLE)])
      refine own_go (fun t k => XS.aloadN X43.here hx rfl (hb hby at_122) rfl rfl k) ?_
      show own_G p e below _ T43 (mkF m 123 #[.val (.int i0), .val (.int i1), .val (.ref a1), .val (.ref a10), .val (.int (3 : Int32)), .val (.int (0 : Int32)), .unset, .unset] [(.ref a1), (.ref a_NULLABLE)])
      refine own_go (fun t k => XS.iload X43.here hx rfl (hb hby at_123) rfl k) ?_
      show own_G p e below _ T43 (mkF m 125 #[.val (.int i0), .val (.int i1), .val (.ref a1), .val (.ref a10), .val (.int (3 : Int32)), .val (.int (0 : Int32)), .unset, .unset] [(.int (0 : Int32)), (.ref a1), (.ref a_NULLABLE)])
      refine own_go (X43.aaload hx (j := (0 : Int32)) (v := (.ref a_NOT_NULL)) (by rw [e43]; exact A44.1) (State.isArrayOf_alike hZ.alike A44.2.1) rfl A44.2.2 (own_in (n := 4) rfl (by decide)) rfl (g := (mkF m 125 #[.val (.int i0), .val (.int i1), .val (.ref a1), .val (.ref a10), .val (.int (3 : Int32)), .val (.int (0 : Int32)), .unset, .unset] [(.int (0 : Int32)), (.ref a1), (.ref a_NULLABLE)])) rfl rfl (hb hby at_125)) ?_
      show own_G p e below _ T43 (mkF m 126 #[.val (.int i0), .val (.int i1), .val (.ref a1), .val (.ref a10), .val (.int (3 : Int32)), .val (.int (0 : Int32)), .unset, .unset] [(.ref a_NOT_NULL), (.ref a_NULLABLE)])
      obtain ⟨T62, L62, v62, X62, ⟨rfl, rfl, q62⟩, st62⟩ := own_callV X43 hx hZ (y := (⟨"com/example/nullsight/nullsight/check/Nullness", "meet", "(Lcom/example/nullsight/nullsight/check/Nullness;)Lcom/example/nullsight/nullsight/check/Nullness;"⟩ : MethodName)) (z := (⟨"com/example/nullsight/nullsight/check/Nullness", "meet", "(Lcom/example/nullsight/nullsight/check/Nullness;)Lcom/example/nullsight/nullsight/check/Nullness;"⟩ : MethodName)) hown (hw _ (List.mem_of_getElem? (i := 13) rfl)) (hw _ (List.mem_of_getElem? (i := 14) rfl)) (hw _ (List.mem_of_getElem? (i := 16) rfl)) (hw _ (List.mem_of_getElem? (i := 16) rfl)) (hw _ (List.mem_of_getElem? (i := 15) rfl)) (hw _ (List.mem_of_getElem? (i := 17) rfl)) (hw _ (List.mem_of_getElem? (i := 3) rfl)) (notFace_of_selects (args := #[]) (mvT hZ (hw _ (List.mem_of_getElem? (i := 16) rfl)))) (by decide) (c_meet l Z a0 hw a_NOT_NULL a_UNKNOWN a_NULL a_NULLABLE a_NULLABLE a_NOT_NULL h43 (own_B_ext x43 B) ) e43 (E_NULLABLE.ext x43) (argsL := [(.ref a_NOT_NULL)]) (rest := []) (g := (mkF m 126 #[.val (.int i0), .val (.int i1), .val (.ref a1), .val (.ref a10), .val (.int (3 : Int32)), .val (.int (0 : Int32)), .unset, .unset] [(.ref a_NOT_NULL), (.ref a_NULLABLE)])) rfl (by rw [hml]; rfl) (ps := [(.object "com/example/nullsight/nullsight/check/Nullness")]) (r := (some (.object "com/example/nullsight/nullsight/check/Nullness"))) (by decide +kernel) rfl rfl (W := 0) (by show 2 * 0 + _ ≤ _; exact Nat.le_of_eq rfl) (hb hby at_126) (by decide) (by decide) (by decide) (by decide)
      have N62 := Fr.app N43 (Fr.nil n0)
      refine own_go st62 ?_
      show own_G p e below _ T62 (mkF m 129 #[.val (.int i0), .val (.int i1), .val (.ref a1), .val (.ref a10), .val (.int (3 : Int32)), .val (.int (0 : Int32)), .unset, .unset] [(own_meet a_NOT_NULL a_UNKNOWN a_NULL a_NULLABLE a_NULLABLE a_NOT_NULL)])
      have r62 : (own_meet a_NOT_NULL a_UNKNOWN a_NULL a_NULLABLE a_NULLABLE a_NOT_NULL) = (.ref a_NOT_NULL) := by unfold own_meet; rw [if_neg (Fld.ne F_NULLABLE_ordinal F_NOT_NULL_ordinal (own_neV (by decide))), if_neg (Fld.ne F_NULLABLE_ordinal F_NULL_ordinal (own_neV (by decide))), if_pos (rfl : a_NOT_NULL = a_NOT_NULL), if_neg (Fld.ne F_NULLABLE_ordinal F_NOT_NULL_ordinal (own_neV (by decide)))]
      rw [r62]
      show own_G p e below _ T62 (mkF m 129 #[.val (.int i0), .val (.int i1), .val (.ref a1), .val (.ref a10), .val (.int (3 : Int32)), .val (.int (0 : Int32)), .unset, .unset] [(.ref a_NOT_NULL)])
      refine own_go (fun t k => XS.astore X62.here hx rfl (hb hby at_129) rfl rfl (l' := #[.val (.int i0), .val (.int i1), .val (.ref a1), .val (.ref a10), .val (.int (3 : Int32)), .val (.int (0 : Int32)), .val (.ref a_NOT_NULL), .unset]) rfl k) ?_
      show own_G p e below _ T62 (mkF m 131 #[.val (.int i0), .val (.int i1), .val (.ref a1), .val (.ref a10), .val (.int (3 : Int32)), .val (.int (0 : Int32)), .val (.ref a_NOT_NULL), .unset] [])
      refine own_go (fun t k => XS.aloadN X62.here hx rfl (hb hby at_131) rfl rfl k) ?_
      show own_G p e below _ T62 (mkF m 132 #[.val (.int i0), .val (.int i1), .val (.ref a1), .val (.ref a10), .val (.int (3 : Int32)), .val (.int (0 : Int32)), .val (.ref a_NOT_NULL), .unset] [(.ref a10)])
      refine own_go (fun t k => XS.iload X62.here hx rfl (hb hby at_132) rfl k) ?_
      show own_G p e below _ T62 (mkF m 134 #[.val (.int i0), .val (.int i1), .val (.ref a1), .val (.ref a10), .val (.int (3 : Int32)), .val (.int (0 : Int32)), .val (.ref a_NOT_NULL), .unset] [(.int (3 : Int32)), (.ref a10)])
      refine own_go (fun t k => XS.iconst X62.here hx rfl (hb hby at_134) k) ?_
      show own_G p e below _ T62 (mkF m 135 #[.val (.int i0), .val (.int i1), .val (.ref a1), .val (.ref a10), .val (.int (3 : Int32)), .val (.int (0 : Int32)), .val (.ref a_NOT_NULL), .unset] [(.int (4 : Int32)), (.int (3 : Int32)), (.ref a10)])
      refine own_go (fun t k => XS.imul X62.here hx rfl (hb hby at_135) rfl k) ?_
      show own_G p e below _ T62 (mkF m 136 #[.val (.int i0), .val (.int i1), .val (.ref a1), .val (.ref a10), .val (.int (3 : Int32)), .val (.int (0 : Int32)), .val (.ref a_NOT_NULL), .unset] [(.int (12 : Int32)), (.ref a10)])
      refine own_go (fun t k => XS.iload X62.here hx rfl (hb hby at_136) rfl k) ?_
      show own_G p e below _ T62 (mkF m 138 #[.val (.int i0), .val (.int i1), .val (.ref a1), .val (.ref a10), .val (.int (3 : Int32)), .val (.int (0 : Int32)), .val (.ref a_NOT_NULL), .unset] [(.int (0 : Int32)), (.int (12 : Int32)), (.ref a10)])
      refine own_go (fun t k => XS.iadd X62.here hx rfl (hb hby at_138) rfl k) ?_
      show own_G p e below _ T62 (mkF m 139 #[.val (.int i0), .val (.int i1), .val (.ref a1), .val (.ref a10), .val (.int (3 : Int32)), .val (.int (0 : Int32)), .val (.ref a_NOT_NULL), .unset] [(.int (12 : Int32)), (.ref a10)])
      refine own_go (X62.iaload hx (j := (12 : Int32)) (v := (.int (0 : Int32))) (by rw [q62]; exact A43.1) (State.isArrayOf_alike hZ.alike A43.2.1) A43.2.2 (own_in (n := 16) rfl (by decide)) rfl (g := (mkF m 139 #[.val (.int i0), .val (.int i1), .val (.ref a1), .val (.ref a10), .val (.int (3 : Int32)), .val (.int (0 : Int32)), .val (.ref a_NOT_NULL), .unset] [(.int (12 : Int32)), (.ref a10)])) rfl rfl (hb hby at_139)) ?_
      show own_G p e below _ T62 (mkF m 140 #[.val (.int i0), .val (.int i1), .val (.ref a1), .val (.ref a10), .val (.int (3 : Int32)), .val (.int (0 : Int32)), .val (.ref a_NOT_NULL), .unset] [(.int (0 : Int32))])
      refine own_go (fun t k => XS.istore X62.here hx rfl (hb hby at_140) rfl (l' := #[.val (.int i0), .val (.int i1), .val (.ref a1), .val (.ref a10), .val (.int (3 : Int32)), .val (.int (0 : Int32)), .val (.ref a_NOT_NULL), .val (.int (0 : Int32))]) rfl k) ?_
      show own_G p e below _ T62 (mkF m 142 #[.val (.int i0), .val (.int i1), .val (.ref a1), .val (.ref a10), .val (.int (3 : Int32)), .val (.int (0 : Int32)), .val (.ref a_NOT_NULL), .val (.int (0 : Int32))] [])
      refine own_go (fun t k => XS.iload X62.here hx rfl (hb hby at_142) rfl k) ?_
      show own_G p e below _ T62 (mkF m 144 #[.val (.int i0), .val (.int i1), .val (.ref a1), .val (.ref a10), .val (.int (3 : Int32)), .val (.int (0 : Int32)), .val (.ref a_NOT_NULL), .val (.int (0 : Int32))] [(.int (0 : Int32))])
      refine own_go (fun t k => XS.ifYes X62.here hx rfl (pc0 := 144) (pc' := 158) rfl (hb hby at_144) rfl (by decide) (by decide) (by decide) k) ?_
      show own_G p e below _ T62 (mkF m 158 #[.val (.int i0), .val (.int i1), .val (.ref a1), .val (.ref a10), .val (.int (3 : Int32)), .val (.int (0 : Int32)), .val (.ref a_NOT_NULL), .val (.int (0 : Int32))] [])
      refine own_go (fun t k => XS.aload X62.here hx rfl (hb hby at_158) rfl rfl k) ?_
      show own_G p e below _ T62 (mkF m 160 #[.val (.int i0), .val (.int i1), .val (.ref a1), .val (.ref a10), .val (.int (3 : Int32)), .val (.int (0 : Int32)), .val (.ref a_NOT_NULL), .val (.int (0 : Int32))] [(.ref a_NOT_NULL)])
      refine own_go (fun t k => XS.aloadN X62.here hx rfl (hb hby at_160) rfl rfl k) ?_
      show own_G p e below _ T62 (mkF m 161 #[.val (.int i0), .val (.int i1), .val (.ref a1), .val (.ref a10), .val (.int (3 : Int32)), .val (.int (0 : Int32)), .val (.ref a_NOT_NULL), .val (.int (0 : Int32))] [(.ref a1), (.ref a_NOT_NULL)])
      refine own_go (fun t k => XS.iload X62.here hx rfl (hb hby at_161) rfl k) ?_
      show own_G p e below _ T62 (mkF m 163 #[.val (.int i0), .val (.int i1), .val (.ref a1), .val (.ref a10), .val (.int (3 : Int32)), .val (.int (0 : Int32)), .val (.ref a_NOT_NULL), .val (.int (0 : Int32))] [(.int (0 : Int32)), (.ref a1), (.ref a_NOT_NULL)])
      refine own_go (X62.aaload hx (j := (0 : Int32)) (v := (.ref a_NOT_NULL)) (by rw [q62]; exact A44.1) (State.isArrayOf_alike hZ.alike A44.2.1) rfl A44.2.2 (own_in (n := 4) rfl (by decide)) rfl (g := (mkF m 163 #[.val (.int i0), .val (.int i1), .val (.ref a1), .val (.ref a10), .val (.int (3 : Int32)), .val (.int (0 : Int32)), .val (.ref a_NOT_NULL), .val (.int (0 : Int32))] [(.int (0 : Int32)), (.ref a1), (.ref a_NOT_NULL)])) rfl rfl (hb hby at_163)) ?_
      show own_G p e below _ T62 (mkF m 164 #[.val (.int i0), .val (.int i1), .val (.ref a1), .val (.ref a10), .val (.int (3 : Int32)), .val (.int (0 : Int32)), .val (.ref a_NOT_NULL), .val (.int (0 : Int32))] [(.ref a_NOT_NULL), (.ref a_NOT_NULL)])
      refine own_go (fun t k => Jvm.Free.XT.acmpNo X62.here hx rfl (hb hby at_164) rfl rfl rfl (own_acnF rfl) k) ?_
      show own_G p e below _ T62 (mkF m 167 #[.val (.int i0), .val (.int i1), .val (.ref a1), .val (.ref a10), .val (.int (3 : Int32)), .val (.int (0 : Int32)), .val (.ref a_NOT_NULL), .val (.int (0 : Int32))] [])
      refine own_go (fun t k => XS.iconst X62.here hx rfl (hb hby at_167) k) ?_
      show own_G p e below _ T62 (mkF m 168 #[.val (.int i0), .val (.int i1), .val (.ref a1), .val (.ref a10), .val (.int (3 : Int32)), .val (.int (0 : Int32)), .val (.ref a_NOT_NULL), .val (.int (0 : Int32))] [(.int (1 : Int32))])
      refine own_go (fun t k => XS.goto X62.here hx rfl (pc0 := 168) (pc' := 172) rfl (hb hby at_168) (by decide) (by decide) k) ?_
      show own_G p e below _ T62 (mkF m 172 #[.val (.int i0), .val (.int i1), .val (.ref a1), .val (.ref a10), .val (.int (3 : Int32)), .val (.int (0 : Int32)), .val (.ref a_NOT_NULL), .val (.int (0 : Int32))] [(.int (1 : Int32))])
      exact own_retN X62 hx hlk hret (by simp) (hb hby at_172) (by decide) (by decide) ⟨rfl, N62⟩
    · rw [hk61]
      show own_G p e below _ T43 (mkF m 119 #[.val (.int i0), .val (.int i1), .val (.ref a1), .val (.ref a10), .val (.int (3 : Int32)), .val (.int (1 : Int32)), .unset, .unset] [(.ref a1)])
      refine own_go (fun t k => XS.iload X43.here hx rfl (hb hby at_119) rfl k) ?_
      show own_G p e below _ T43 (mkF m 121 #[.val (.int i0), .val (.int i1), .val (.ref a1), .val (.ref a10), .val (.int (3 : Int32)), .val (.int (1 : Int32)), .unset, .unset] [(.int (3 : Int32)), (.ref a1)])
      refine own_go (X43.aaload hx (j := (3 : Int32)) (v := (.ref a_NULLABLE)) (by rw [e43]; exact A44.1) (State.isArrayOf_alike hZ.alike A44.2.1) rfl A44.2.2 (own_in (n := 4) rfl (by decide)) rfl (g := (mkF m 121 #[.val (.int i0), .val (.int i1), .val (.ref a1), .val (.ref a10), .val (.int (3 : Int32)), .val (.int (1 : Int32)), .unset, .unset] [(.int (3 : Int32)), (.ref a1)])) rfl rfl (hb hby at_121)) ?_
      show own_G p e below _ T43 (mkF m 122 #[.val (.int i0), .val (.int i1), .val (.ref a1), .val (.ref a10), .val (.int (3 : Int32)), .val (.int (1 : Int32)), .unset, .unset] [(.ref a_NULLABLE)])
      refine own_go (fun t k => XS.aloadN X43.here hx rfl (hb hby at_122) rfl rfl k) ?_
      show own_G p e below _ T43 (mkF m 123 #[.val (.int i0), .val (.int i1), .val (.ref a1), .val (.ref a10), .val (.int (3 : Int32)), .val (.int (1 : Int32)), .unset, .unset] [(.ref a1), (.ref a_NULLABLE)])
      refine own_go (fun t k => XS.iload X43.here hx rfl (hb hby at_123) rfl k) ?_
      show own_G p e below _ T43 (mkF m 125 #[.val (.int i0), .val (.int i1), .val (.ref a1), .val (.ref a10), .val (.int (3 : Int32)), .val (.int (1 : Int32)), .unset, .unset] [(.int (1 : Int32)), (.ref a1), (.ref a_NULLABLE)])
      refine own_go (X43.aaload hx (j := (1 : Int32)) (v := (.ref a_UNKNOWN)) (by rw [e43]; exact A44.1) (State.isArrayOf_alike hZ.alike A44.2.1) rfl A44.2.2 (own_in (n := 4) rfl (by decide)) rfl (g := (mkF m 125 #[.val (.int i0), .val (.int i1), .val (.ref a1), .val (.ref a10), .val (.int (3 : Int32)), .val (.int (1 : Int32)), .unset, .unset] [(.int (1 : Int32)), (.ref a1), (.ref a_NULLABLE)])) rfl rfl (hb hby at_125)) ?_
      show own_G p e below _ T43 (mkF m 126 #[.val (.int i0), .val (.int i1), .val (.ref a1), .val (.ref a10), .val (.int (3 : Int32)), .val (.int (1 : Int32)), .unset, .unset] [(.ref a_UNKNOWN), (.ref a_NULLABLE)])
      obtain ⟨T63, L63, v63, X63, ⟨rfl, rfl, q63⟩, st63⟩ := own_callV X43 hx hZ (y := (⟨"com/example/nullsight/nullsight/check/Nullness", "meet", "(Lcom/example/nullsight/nullsight/check/Nullness;)Lcom/example/nullsight/nullsight/check/Nullness;"⟩ : MethodName)) (z := (⟨"com/example/nullsight/nullsight/check/Nullness", "meet", "(Lcom/example/nullsight/nullsight/check/Nullness;)Lcom/example/nullsight/nullsight/check/Nullness;"⟩ : MethodName)) hown (hw _ (List.mem_of_getElem? (i := 13) rfl)) (hw _ (List.mem_of_getElem? (i := 14) rfl)) (hw _ (List.mem_of_getElem? (i := 16) rfl)) (hw _ (List.mem_of_getElem? (i := 16) rfl)) (hw _ (List.mem_of_getElem? (i := 15) rfl)) (hw _ (List.mem_of_getElem? (i := 17) rfl)) (hw _ (List.mem_of_getElem? (i := 3) rfl)) (notFace_of_selects (args := #[]) (mvT hZ (hw _ (List.mem_of_getElem? (i := 16) rfl)))) (by decide) (c_meet l Z a0 hw a_NOT_NULL a_UNKNOWN a_NULL a_NULLABLE a_NULLABLE a_UNKNOWN h43 (own_B_ext x43 B) ) e43 (E_NULLABLE.ext x43) (argsL := [(.ref a_UNKNOWN)]) (rest := []) (g := (mkF m 126 #[.val (.int i0), .val (.int i1), .val (.ref a1), .val (.ref a10), .val (.int (3 : Int32)), .val (.int (1 : Int32)), .unset, .unset] [(.ref a_UNKNOWN), (.ref a_NULLABLE)])) rfl (by rw [hml]; rfl) (ps := [(.object "com/example/nullsight/nullsight/check/Nullness")]) (r := (some (.object "com/example/nullsight/nullsight/check/Nullness"))) (by decide +kernel) rfl rfl (W := 0) (by show 2 * 0 + _ ≤ _; exact Nat.le_of_eq rfl) (hb hby at_126) (by decide) (by decide) (by decide) (by decide)
      have N63 := Fr.app N43 (Fr.nil n0)
      refine own_go st63 ?_
      show own_G p e below _ T63 (mkF m 129 #[.val (.int i0), .val (.int i1), .val (.ref a1), .val (.ref a10), .val (.int (3 : Int32)), .val (.int (1 : Int32)), .unset, .unset] [(own_meet a_NOT_NULL a_UNKNOWN a_NULL a_NULLABLE a_NULLABLE a_UNKNOWN)])
      have r63 : (own_meet a_NOT_NULL a_UNKNOWN a_NULL a_NULLABLE a_NULLABLE a_UNKNOWN) = (.ref a_UNKNOWN) := by unfold own_meet; rw [if_neg (Fld.ne F_NULLABLE_ordinal F_NOT_NULL_ordinal (own_neV (by decide))), if_neg (Fld.ne F_NULLABLE_ordinal F_NULL_ordinal (own_neV (by decide))), if_neg (Fld.ne F_UNKNOWN_ordinal F_NOT_NULL_ordinal (own_neV (by decide))), if_neg (Fld.ne F_UNKNOWN_ordinal F_NULL_ordinal (own_neV (by decide))), if_neg (Fld.ne F_NULLABLE_ordinal F_UNKNOWN_ordinal (own_neV (by decide)))]
      rw [r63]
      show own_G p e below _ T63 (mkF m 129 #[.val (.int i0), .val (.int i1), .val (.ref a1), .val (.ref a10), .val (.int (3 : Int32)), .val (.int (1 : Int32)), .unset, .unset] [(.ref a_UNKNOWN)])
      refine own_go (fun t k => XS.astore X63.here hx rfl (hb hby at_129) rfl rfl (l' := #[.val (.int i0), .val (.int i1), .val (.ref a1), .val (.ref a10), .val (.int (3 : Int32)), .val (.int (1 : Int32)), .val (.ref a_UNKNOWN), .unset]) rfl k) ?_
      show own_G p e below _ T63 (mkF m 131 #[.val (.int i0), .val (.int i1), .val (.ref a1), .val (.ref a10), .val (.int (3 : Int32)), .val (.int (1 : Int32)), .val (.ref a_UNKNOWN), .unset] [])
      refine own_go (fun t k => XS.aloadN X63.here hx rfl (hb hby at_131) rfl rfl k) ?_
      show own_G p e below _ T63 (mkF m 132 #[.val (.int i0), .val (.int i1), .val (.ref a1), .val (.ref a10), .val (.int (3 : Int32)), .val (.int (1 : Int32)), .val (.ref a_UNKNOWN), .unset] [(.ref a10)])
      refine own_go (fun t k => XS.iload X63.here hx rfl (hb hby at_132) rfl k) ?_
      show own_G p e below _ T63 (mkF m 134 #[.val (.int i0), .val (.int i1), .val (.ref a1), .val (.ref a10), .val (.int (3 : Int32)), .val (.int (1 : Int32)), .val (.ref a_UNKNOWN), .unset] [(.int (3 : Int32)), (.ref a10)])
      refine own_go (fun t k => XS.iconst X63.here hx rfl (hb hby at_134) k) ?_
      show own_G p e below _ T63 (mkF m 135 #[.val (.int i0), .val (.int i1), .val (.ref a1), .val (.ref a10), .val (.int (3 : Int32)), .val (.int (1 : Int32)), .val (.ref a_UNKNOWN), .unset] [(.int (4 : Int32)), (.int (3 : Int32)), (.ref a10)])
      refine own_go (fun t k => XS.imul X63.here hx rfl (hb hby at_135) rfl k) ?_
      show own_G p e below _ T63 (mkF m 136 #[.val (.int i0), .val (.int i1), .val (.ref a1), .val (.ref a10), .val (.int (3 : Int32)), .val (.int (1 : Int32)), .val (.ref a_UNKNOWN), .unset] [(.int (12 : Int32)), (.ref a10)])
      refine own_go (fun t k => XS.iload X63.here hx rfl (hb hby at_136) rfl k) ?_
      show own_G p e below _ T63 (mkF m 138 #[.val (.int i0), .val (.int i1), .val (.ref a1), .val (.ref a10), .val (.int (3 : Int32)), .val (.int (1 : Int32)), .val (.ref a_UNKNOWN), .unset] [(.int (1 : Int32)), (.int (12 : Int32)), (.ref a10)])
      refine own_go (fun t k => XS.iadd X63.here hx rfl (hb hby at_138) rfl k) ?_
      show own_G p e below _ T63 (mkF m 139 #[.val (.int i0), .val (.int i1), .val (.ref a1), .val (.ref a10), .val (.int (3 : Int32)), .val (.int (1 : Int32)), .val (.ref a_UNKNOWN), .unset] [(.int (13 : Int32)), (.ref a10)])
      refine own_go (X63.iaload hx (j := (13 : Int32)) (v := (.int (1 : Int32))) (by rw [q63]; exact A43.1) (State.isArrayOf_alike hZ.alike A43.2.1) A43.2.2 (own_in (n := 16) rfl (by decide)) rfl (g := (mkF m 139 #[.val (.int i0), .val (.int i1), .val (.ref a1), .val (.ref a10), .val (.int (3 : Int32)), .val (.int (1 : Int32)), .val (.ref a_UNKNOWN), .unset] [(.int (13 : Int32)), (.ref a10)])) rfl rfl (hb hby at_139)) ?_
      show own_G p e below _ T63 (mkF m 140 #[.val (.int i0), .val (.int i1), .val (.ref a1), .val (.ref a10), .val (.int (3 : Int32)), .val (.int (1 : Int32)), .val (.ref a_UNKNOWN), .unset] [(.int (1 : Int32))])
      refine own_go (fun t k => XS.istore X63.here hx rfl (hb hby at_140) rfl (l' := #[.val (.int i0), .val (.int i1), .val (.ref a1), .val (.ref a10), .val (.int (3 : Int32)), .val (.int (1 : Int32)), .val (.ref a_UNKNOWN), .val (.int (1 : Int32))]) rfl k) ?_
      show own_G p e below _ T63 (mkF m 142 #[.val (.int i0), .val (.int i1), .val (.ref a1), .val (.ref a10), .val (.int (3 : Int32)), .val (.int (1 : Int32)), .val (.ref a_UNKNOWN), .val (.int (1 : Int32))] [])
      refine own_go (fun t k => XS.iload X63.here hx rfl (hb hby at_142) rfl k) ?_
      show own_G p e below _ T63 (mkF m 144 #[.val (.int i0), .val (.int i1), .val (.ref a1), .val (.ref a10), .val (.int (3 : Int32)), .val (.int (1 : Int32)), .val (.ref a_UNKNOWN), .val (.int (1 : Int32))] [(.int (1 : Int32))])
      refine own_go (fun t k => XS.ifYes X63.here hx rfl (pc0 := 144) (pc' := 158) rfl (hb hby at_144) rfl (by decide) (by decide) (by decide) k) ?_
      show own_G p e below _ T63 (mkF m 158 #[.val (.int i0), .val (.int i1), .val (.ref a1), .val (.ref a10), .val (.int (3 : Int32)), .val (.int (1 : Int32)), .val (.ref a_UNKNOWN), .val (.int (1 : Int32))] [])
      refine own_go (fun t k => XS.aload X63.here hx rfl (hb hby at_158) rfl rfl k) ?_
      show own_G p e below _ T63 (mkF m 160 #[.val (.int i0), .val (.int i1), .val (.ref a1), .val (.ref a10), .val (.int (3 : Int32)), .val (.int (1 : Int32)), .val (.ref a_UNKNOWN), .val (.int (1 : Int32))] [(.ref a_UNKNOWN)])
      refine own_go (fun t k => XS.aloadN X63.here hx rfl (hb hby at_160) rfl rfl k) ?_
      show own_G p e below _ T63 (mkF m 161 #[.val (.int i0), .val (.int i1), .val (.ref a1), .val (.ref a10), .val (.int (3 : Int32)), .val (.int (1 : Int32)), .val (.ref a_UNKNOWN), .val (.int (1 : Int32))] [(.ref a1), (.ref a_UNKNOWN)])
      refine own_go (fun t k => XS.iload X63.here hx rfl (hb hby at_161) rfl k) ?_
      show own_G p e below _ T63 (mkF m 163 #[.val (.int i0), .val (.int i1), .val (.ref a1), .val (.ref a10), .val (.int (3 : Int32)), .val (.int (1 : Int32)), .val (.ref a_UNKNOWN), .val (.int (1 : Int32))] [(.int (1 : Int32)), (.ref a1), (.ref a_UNKNOWN)])
      refine own_go (X63.aaload hx (j := (1 : Int32)) (v := (.ref a_UNKNOWN)) (by rw [q63]; exact A44.1) (State.isArrayOf_alike hZ.alike A44.2.1) rfl A44.2.2 (own_in (n := 4) rfl (by decide)) rfl (g := (mkF m 163 #[.val (.int i0), .val (.int i1), .val (.ref a1), .val (.ref a10), .val (.int (3 : Int32)), .val (.int (1 : Int32)), .val (.ref a_UNKNOWN), .val (.int (1 : Int32))] [(.int (1 : Int32)), (.ref a1), (.ref a_UNKNOWN)])) rfl rfl (hb hby at_163)) ?_
      show own_G p e below _ T63 (mkF m 164 #[.val (.int i0), .val (.int i1), .val (.ref a1), .val (.ref a10), .val (.int (3 : Int32)), .val (.int (1 : Int32)), .val (.ref a_UNKNOWN), .val (.int (1 : Int32))] [(.ref a_UNKNOWN), (.ref a_UNKNOWN)])
      refine own_go (fun t k => Jvm.Free.XT.acmpNo X63.here hx rfl (hb hby at_164) rfl rfl rfl (own_acnF rfl) k) ?_
      show own_G p e below _ T63 (mkF m 167 #[.val (.int i0), .val (.int i1), .val (.ref a1), .val (.ref a10), .val (.int (3 : Int32)), .val (.int (1 : Int32)), .val (.ref a_UNKNOWN), .val (.int (1 : Int32))] [])
      refine own_go (fun t k => XS.iconst X63.here hx rfl (hb hby at_167) k) ?_
      show own_G p e below _ T63 (mkF m 168 #[.val (.int i0), .val (.int i1), .val (.ref a1), .val (.ref a10), .val (.int (3 : Int32)), .val (.int (1 : Int32)), .val (.ref a_UNKNOWN), .val (.int (1 : Int32))] [(.int (1 : Int32))])
      refine own_go (fun t k => XS.goto X63.here hx rfl (pc0 := 168) (pc' := 172) rfl (hb hby at_168) (by decide) (by decide) k) ?_
      show own_G p e below _ T63 (mkF m 172 #[.val (.int i0), .val (.int i1), .val (.ref a1), .val (.ref a10), .val (.int (3 : Int32)), .val (.int (1 : Int32)), .val (.ref a_UNKNOWN), .val (.int (1 : Int32))] [(.int (1 : Int32))])
      exact own_retN X63 hx hlk hret (by simp) (hb hby at_172) (by decide) (by decide) ⟨rfl, N63⟩
    · rw [hk61]
      show own_G p e below _ T43 (mkF m 119 #[.val (.int i0), .val (.int i1), .val (.ref a1), .val (.ref a10), .val (.int (3 : Int32)), .val (.int (2 : Int32)), .unset, .unset] [(.ref a1)])
      refine own_go (fun t k => XS.iload X43.here hx rfl (hb hby at_119) rfl k) ?_
      show own_G p e below _ T43 (mkF m 121 #[.val (.int i0), .val (.int i1), .val (.ref a1), .val (.ref a10), .val (.int (3 : Int32)), .val (.int (2 : Int32)), .unset, .unset] [(.int (3 : Int32)), (.ref a1)])
      refine own_go (X43.aaload hx (j := (3 : Int32)) (v := (.ref a_NULLABLE)) (by rw [e43]; exact A44.1) (State.isArrayOf_alike hZ.alike A44.2.1) rfl A44.2.2 (own_in (n := 4) rfl (by decide)) rfl (g := (mkF m 121 #[.val (.int i0), .val (.int i1), .val (.ref a1), .val (.ref a10), .val (.int (3 : Int32)), .val (.int (2 : Int32)), .unset, .unset] [(.int (3 : Int32)), (.ref a1)])) rfl rfl (hb hby at_121)) ?_
      show own_G p e below _ T43 (mkF m 122 #[.val (.int i0), .val (.int i1), .val (.ref a1), .val (.ref a10), .val (.int (3 : Int32)), .val (.int (2 : Int32)), .unset, .unset] [(.ref a_NULLABLE)])
      refine own_go (fun t k => XS.aloadN X43.here hx rfl (hb hby at_122) rfl rfl k) ?_
      show own_G p e below _ T43 (mkF m 123 #[.val (.int i0), .val (.int i1), .val (.ref a1), .val (.ref a10), .val (.int (3 : Int32)), .val (.int (2 : Int32)), .unset, .unset] [(.ref a1), (.ref a_NULLABLE)])
      refine own_go (fun t k => XS.iload X43.here hx rfl (hb hby at_123) rfl k) ?_
      show own_G p e below _ T43 (mkF m 125 #[.val (.int i0), .val (.int i1), .val (.ref a1), .val (.ref a10), .val (.int (3 : Int32)), .val (.int (2 : Int32)), .unset, .unset] [(.int (2 : Int32)), (.ref a1), (.ref a_NULLABLE)])
      refine own_go (X43.aaload hx (j := (2 : Int32)) (v := (.ref a_NULL)) (by rw [e43]; exact A44.1) (State.isArrayOf_alike hZ.alike A44.2.1) rfl A44.2.2 (own_in (n := 4) rfl (by decide)) rfl (g := (mkF m 125 #[.val (.int i0), .val (.int i1), .val (.ref a1), .val (.ref a10), .val (.int (3 : Int32)), .val (.int (2 : Int32)), .unset, .unset] [(.int (2 : Int32)), (.ref a1), (.ref a_NULLABLE)])) rfl rfl (hb hby at_125)) ?_
      show own_G p e below _ T43 (mkF m 126 #[.val (.int i0), .val (.int i1), .val (.ref a1), .val (.ref a10), .val (.int (3 : Int32)), .val (.int (2 : Int32)), .unset, .unset] [(.ref a_NULL), (.ref a_NULLABLE)])
      obtain ⟨T64, L64, v64, X64, ⟨rfl, rfl, q64⟩, st64⟩ := own_callV X43 hx hZ (y := (⟨"com/example/nullsight/nullsight/check/Nullness", "meet", "(Lcom/example/nullsight/nullsight/check/Nullness;)Lcom/example/nullsight/nullsight/check/Nullness;"⟩ : MethodName)) (z := (⟨"com/example/nullsight/nullsight/check/Nullness", "meet", "(Lcom/example/nullsight/nullsight/check/Nullness;)Lcom/example/nullsight/nullsight/check/Nullness;"⟩ : MethodName)) hown (hw _ (List.mem_of_getElem? (i := 13) rfl)) (hw _ (List.mem_of_getElem? (i := 14) rfl)) (hw _ (List.mem_of_getElem? (i := 16) rfl)) (hw _ (List.mem_of_getElem? (i := 16) rfl)) (hw _ (List.mem_of_getElem? (i := 15) rfl)) (hw _ (List.mem_of_getElem? (i := 17) rfl)) (hw _ (List.mem_of_getElem? (i := 3) rfl)) (notFace_of_selects (args := #[]) (mvT hZ (hw _ (List.mem_of_getElem? (i := 16) rfl)))) (by decide) (c_meet l Z a0 hw a_NOT_NULL a_UNKNOWN a_NULL a_NULLABLE a_NULLABLE a_NULL h43 (own_B_ext x43 B) ) e43 (E_NULLABLE.ext x43) (argsL := [(.ref a_NULL)]) (rest := []) (g := (mkF m 126 #[.val (.int i0), .val (.int i1), .val (.ref a1), .val (.ref a10), .val (.int (3 : Int32)), .val (.int (2 : Int32)), .unset, .unset] [(.ref a_NULL), (.ref a_NULLABLE)])) rfl (by rw [hml]; rfl) (ps := [(.object "com/example/nullsight/nullsight/check/Nullness")]) (r := (some (.object "com/example/nullsight/nullsight/check/Nullness"))) (by decide +kernel) rfl rfl (W := 0) (by show 2 * 0 + _ ≤ _; exact Nat.le_of_eq rfl) (hb hby at_126) (by decide) (by decide) (by decide) (by decide)
      have N64 := Fr.app N43 (Fr.nil n0)
      refine own_go st64 ?_
      show own_G p e below _ T64 (mkF m 129 #[.val (.int i0), .val (.int i1), .val (.ref a1), .val (.ref a10), .val (.int (3 : Int32)), .val (.int (2 : Int32)), .unset, .unset] [(own_meet a_NOT_NULL a_UNKNOWN a_NULL a_NULLABLE a_NULLABLE a_NULL)])
      have r64 : (own_meet a_NOT_NULL a_UNKNOWN a_NULL a_NULLABLE a_NULLABLE a_NULL) = (.ref a_NULL) := by unfold own_meet; rw [if_neg (Fld.ne F_NULLABLE_ordinal F_NOT_NULL_ordinal (own_neV (by decide))), if_neg (Fld.ne F_NULLABLE_ordinal F_NULL_ordinal (own_neV (by decide))), if_neg (Fld.ne F_NULL_ordinal F_NOT_NULL_ordinal (own_neV (by decide))), if_pos (rfl : a_NULL = a_NULL), if_neg (Fld.ne F_NULLABLE_ordinal F_NULL_ordinal (own_neV (by decide)))]
      rw [r64]
      show own_G p e below _ T64 (mkF m 129 #[.val (.int i0), .val (.int i1), .val (.ref a1), .val (.ref a10), .val (.int (3 : Int32)), .val (.int (2 : Int32)), .unset, .unset] [(.ref a_NULL)])
      refine own_go (fun t k => XS.astore X64.here hx rfl (hb hby at_129) rfl rfl (l' := #[.val (.int i0), .val (.int i1), .val (.ref a1), .val (.ref a10), .val (.int (3 : Int32)), .val (.int (2 : Int32)), .val (.ref a_NULL), .unset]) rfl k) ?_
      show own_G p e below _ T64 (mkF m 131 #[.val (.int i0), .val (.int i1), .val (.ref a1), .val (.ref a10), .val (.int (3 : Int32)), .val (.int (2 : Int32)), .val (.ref a_NULL), .unset] [])
      refine own_go (fun t k => XS.aloadN X64.here hx rfl (hb hby at_131) rfl rfl k) ?_
      show own_G p e below _ T64 (mkF m 132 #[.val (.int i0), .val (.int i1), .val (.ref a1), .val (.ref a10), .val (.int (3 : Int32)), .val (.int (2 : Int32)), .val (.ref a_NULL), .unset] [(.ref a10)])
      refine own_go (fun t k => XS.iload X64.here hx rfl (hb hby at_132) rfl k) ?_
      show own_G p e below _ T64 (mkF m 134 #[.val (.int i0), .val (.int i1), .val (.ref a1), .val (.ref a10), .val (.int (3 : Int32)), .val (.int (2 : Int32)), .val (.ref a_NULL), .unset] [(.int (3 : Int32)), (.ref a10)])
      refine own_go (fun t k => XS.iconst X64.here hx rfl (hb hby at_134) k) ?_
      show own_G p e below _ T64 (mkF m 135 #[.val (.int i0), .val (.int i1), .val (.ref a1), .val (.ref a10), .val (.int (3 : Int32)), .val (.int (2 : Int32)), .val (.ref a_NULL), .unset] [(.int (4 : Int32)), (.int (3 : Int32)), (.ref a10)])
      refine own_go (fun t k => XS.imul X64.here hx rfl (hb hby at_135) rfl k) ?_
      show own_G p e below _ T64 (mkF m 136 #[.val (.int i0), .val (.int i1), .val (.ref a1), .val (.ref a10), .val (.int (3 : Int32)), .val (.int (2 : Int32)), .val (.ref a_NULL), .unset] [(.int (12 : Int32)), (.ref a10)])
      refine own_go (fun t k => XS.iload X64.here hx rfl (hb hby at_136) rfl k) ?_
      show own_G p e below _ T64 (mkF m 138 #[.val (.int i0), .val (.int i1), .val (.ref a1), .val (.ref a10), .val (.int (3 : Int32)), .val (.int (2 : Int32)), .val (.ref a_NULL), .unset] [(.int (2 : Int32)), (.int (12 : Int32)), (.ref a10)])
      refine own_go (fun t k => XS.iadd X64.here hx rfl (hb hby at_138) rfl k) ?_
      show own_G p e below _ T64 (mkF m 139 #[.val (.int i0), .val (.int i1), .val (.ref a1), .val (.ref a10), .val (.int (3 : Int32)), .val (.int (2 : Int32)), .val (.ref a_NULL), .unset] [(.int (14 : Int32)), (.ref a10)])
      refine own_go (X64.iaload hx (j := (14 : Int32)) (v := (.int (2 : Int32))) (by rw [q64]; exact A43.1) (State.isArrayOf_alike hZ.alike A43.2.1) A43.2.2 (own_in (n := 16) rfl (by decide)) rfl (g := (mkF m 139 #[.val (.int i0), .val (.int i1), .val (.ref a1), .val (.ref a10), .val (.int (3 : Int32)), .val (.int (2 : Int32)), .val (.ref a_NULL), .unset] [(.int (14 : Int32)), (.ref a10)])) rfl rfl (hb hby at_139)) ?_
      show own_G p e below _ T64 (mkF m 140 #[.val (.int i0), .val (.int i1), .val (.ref a1), .val (.ref a10), .val (.int (3 : Int32)), .val (.int (2 : Int32)), .val (.ref a_NULL), .unset] [(.int (2 : Int32))])
      refine own_go (fun t k => XS.istore X64.here hx rfl (hb hby at_140) rfl (l' := #[.val (.int i0), .val (.int i1), .val (.ref a1), .val (.ref a10), .val (.int (3 : Int32)), .val (.int (2 : Int32)), .val (.ref a_NULL), .val (.int (2 : Int32))]) rfl k) ?_
      show own_G p e below _ T64 (mkF m 142 #[.val (.int i0), .val (.int i1), .val (.ref a1), .val (.ref a10), .val (.int (3 : Int32)), .val (.int (2 : Int32)), .val (.ref a_NULL), .val (.int (2 : Int32))] [])
      refine own_go (fun t k => XS.iload X64.here hx rfl (hb hby at_142) rfl k) ?_
      show own_G p e below _ T64 (mkF m 144 #[.val (.int i0), .val (.int i1), .val (.ref a1), .val (.ref a10), .val (.int (3 : Int32)), .val (.int (2 : Int32)), .val (.ref a_NULL), .val (.int (2 : Int32))] [(.int (2 : Int32))])
      refine own_go (fun t k => XS.ifYes X64.here hx rfl (pc0 := 144) (pc' := 158) rfl (hb hby at_144) rfl (by decide) (by decide) (by decide) k) ?_
      show own_G p e below _ T64 (mkF m 158 #[.val (.int i0), .val (.int i1), .val (.ref a1), .val (.ref a10), .val (.int (3 : Int32)), .val (.int (2 : Int32)), .val (.ref a_NULL), .val (.int (2 : Int32))] [])
      refine own_go (fun t k => XS.aload X64.here hx rfl (hb hby at_158) rfl rfl k) ?_
      show own_G p e below _ T64 (mkF m 160 #[.val (.int i0), .val (.int i1), .val (.ref a1), .val (.ref a10), .val (.int (3 : Int32)), .val (.int (2 : Int32)), .val (.ref a_NULL), .val (.int (2 : Int32))] [(.ref a_NULL)])
      refine own_go (fun t k => XS.aloadN X64.here hx rfl (hb hby at_160) rfl rfl k) ?_
      show own_G p e below _ T64 (mkF m 161 #[.val (.int i0), .val (.int i1), .val (.ref a1), .val (.ref a10), .val (.int (3 : Int32)), .val (.int (2 : Int32)), .val (.ref a_NULL), .val (.int (2 : Int32))] [(.ref a1), (.ref a_NULL)])
      refine own_go (fun t k => XS.iload X64.here hx rfl (hb hby at_161) rfl k) ?_
      show own_G p e below _ T64 (mkF m 163 #[.val (.int i0), .val (.int i1), .val (.ref a1), .val (.ref a10), .val (.int (3 : Int32)), .val (.int (2 : Int32)), .val (.ref a_NULL), .val (.int (2 : Int32))] [(.int (2 : Int32)), (.ref a1), (.ref a_NULL)])
      refine own_go (X64.aaload hx (j := (2 : Int32)) (v := (.ref a_NULL)) (by rw [q64]; exact A44.1) (State.isArrayOf_alike hZ.alike A44.2.1) rfl A44.2.2 (own_in (n := 4) rfl (by decide)) rfl (g := (mkF m 163 #[.val (.int i0), .val (.int i1), .val (.ref a1), .val (.ref a10), .val (.int (3 : Int32)), .val (.int (2 : Int32)), .val (.ref a_NULL), .val (.int (2 : Int32))] [(.int (2 : Int32)), (.ref a1), (.ref a_NULL)])) rfl rfl (hb hby at_163)) ?_
      show own_G p e below _ T64 (mkF m 164 #[.val (.int i0), .val (.int i1), .val (.ref a1), .val (.ref a10), .val (.int (3 : Int32)), .val (.int (2 : Int32)), .val (.ref a_NULL), .val (.int (2 : Int32))] [(.ref a_NULL), (.ref a_NULL)])
      refine own_go (fun t k => Jvm.Free.XT.acmpNo X64.here hx rfl (hb hby at_164) rfl rfl rfl (own_acnF rfl) k) ?_
      show own_G p e below _ T64 (mkF m 167 #[.val (.int i0), .val (.int i1), .val (.ref a1), .val (.ref a10), .val (.int (3 : Int32)), .val (.int (2 : Int32)), .val (.ref a_NULL), .val (.int (2 : Int32))] [])
      refine own_go (fun t k => XS.iconst X64.here hx rfl (hb hby at_167) k) ?_
      show own_G p e below _ T64 (mkF m 168 #[.val (.int i0), .val (.int i1), .val (.ref a1), .val (.ref a10), .val (.int (3 : Int32)), .val (.int (2 : Int32)), .val (.ref a_NULL), .val (.int (2 : Int32))] [(.int (1 : Int32))])
      refine own_go (fun t k => XS.goto X64.here hx rfl (pc0 := 168) (pc' := 172) rfl (hb hby at_168) (by decide) (by decide) k) ?_
      show own_G p e below _ T64 (mkF m 172 #[.val (.int i0), .val (.int i1), .val (.ref a1), .val (.ref a10), .val (.int (3 : Int32)), .val (.int (2 : Int32)), .val (.ref a_NULL), .val (.int (2 : Int32))] [(.int (1 : Int32))])
      exact own_retN X64 hx hlk hret (by simp) (hb hby at_172) (by decide) (by decide) ⟨rfl, N64⟩
    · rw [hk61]
      show own_G p e below _ T43 (mkF m 119 #[.val (.int i0), .val (.int i1), .val (.ref a1), .val (.ref a10), .val (.int (3 : Int32)), .val (.int (3 : Int32)), .unset, .unset] [(.ref a1)])
      refine own_go (fun t k => XS.iload X43.here hx rfl (hb hby at_119) rfl k) ?_
      show own_G p e below _ T43 (mkF m 121 #[.val (.int i0), .val (.int i1), .val (.ref a1), .val (.ref a10), .val (.int (3 : Int32)), .val (.int (3 : Int32)), .unset, .unset] [(.int (3 : Int32)), (.ref a1)])
      refine own_go (X43.aaload hx (j := (3 : Int32)) (v := (.ref a_NULLABLE)) (by rw [e43]; exact A44.1) (State.isArrayOf_alike hZ.alike A44.2.1) rfl A44.2.2 (own_in (n := 4) rfl (by decide)) rfl (g := (mkF m 121 #[.val (.int i0), .val (.int i1), .val (.ref a1), .val (.ref a10), .val (.int (3 : Int32)), .val (.int (3 : Int32)), .unset, .unset] [(.int (3 : Int32)), (.ref a1)])) rfl rfl (hb hby at_121)) ?_
      show own_G p e below _ T43 (mkF m 122 #[.val (.int i0), .val (.int i1), .val (.ref a1), .val (.ref a10), .val (.int (3 : Int32)), .val (.int (3 : Int32)), .unset, .unset] [(.ref a_NULLABLE)])
      refine own_go (fun t k => XS.aloadN X43.here hx rfl (hb hby at_122) rfl rfl k) ?_
      show own_G p e below _ T43 (mkF m 123 #[.val (.int i0), .val (.int i1), .val (.ref a1), .val (.ref a10), .val (.int (3 : Int32)), .val (.int (3 : Int32)), .unset, .unset] [(.ref a1), (.ref a_NULLABLE)])
      refine own_go (fun t k => XS.iload X43.here hx rfl (hb hby at_123) rfl k) ?_
      show own_G p e below _ T43 (mkF m 125 #[.val (.int i0), .val (.int i1), .val (.ref a1), .val (.ref a10), .val (.int (3 : Int32)), .val (.int (3 : Int32)), .unset, .unset] [(.int (3 : Int32)), (.ref a1), (.ref a_NULLABLE)])
      refine own_go (X43.aaload hx (j := (3 : Int32)) (v := (.ref a_NULLABLE)) (by rw [e43]; exact A44.1) (State.isArrayOf_alike hZ.alike A44.2.1) rfl A44.2.2 (own_in (n := 4) rfl (by decide)) rfl (g := (mkF m 125 #[.val (.int i0), .val (.int i1), .val (.ref a1), .val (.ref a10), .val (.int (3 : Int32)), .val (.int (3 : Int32)), .unset, .unset] [(.int (3 : Int32)), (.ref a1), (.ref a_NULLABLE)])) rfl rfl (hb hby at_125)) ?_
      show own_G p e below _ T43 (mkF m 126 #[.val (.int i0), .val (.int i1), .val (.ref a1), .val (.ref a10), .val (.int (3 : Int32)), .val (.int (3 : Int32)), .unset, .unset] [(.ref a_NULLABLE), (.ref a_NULLABLE)])
      obtain ⟨T65, L65, v65, X65, ⟨rfl, rfl, q65⟩, st65⟩ := own_callV X43 hx hZ (y := (⟨"com/example/nullsight/nullsight/check/Nullness", "meet", "(Lcom/example/nullsight/nullsight/check/Nullness;)Lcom/example/nullsight/nullsight/check/Nullness;"⟩ : MethodName)) (z := (⟨"com/example/nullsight/nullsight/check/Nullness", "meet", "(Lcom/example/nullsight/nullsight/check/Nullness;)Lcom/example/nullsight/nullsight/check/Nullness;"⟩ : MethodName)) hown (hw _ (List.mem_of_getElem? (i := 13) rfl)) (hw _ (List.mem_of_getElem? (i := 14) rfl)) (hw _ (List.mem_of_getElem? (i := 16) rfl)) (hw _ (List.mem_of_getElem? (i := 16) rfl)) (hw _ (List.mem_of_getElem? (i := 15) rfl)) (hw _ (List.mem_of_getElem? (i := 17) rfl)) (hw _ (List.mem_of_getElem? (i := 3) rfl)) (notFace_of_selects (args := #[]) (mvT hZ (hw _ (List.mem_of_getElem? (i := 16) rfl)))) (by decide) (c_meet l Z a0 hw a_NOT_NULL a_UNKNOWN a_NULL a_NULLABLE a_NULLABLE a_NULLABLE h43 (own_B_ext x43 B) ) e43 (E_NULLABLE.ext x43) (argsL := [(.ref a_NULLABLE)]) (rest := []) (g := (mkF m 126 #[.val (.int i0), .val (.int i1), .val (.ref a1), .val (.ref a10), .val (.int (3 : Int32)), .val (.int (3 : Int32)), .unset, .unset] [(.ref a_NULLABLE), (.ref a_NULLABLE)])) rfl (by rw [hml]; rfl) (ps := [(.object "com/example/nullsight/nullsight/check/Nullness")]) (r := (some (.object "com/example/nullsight/nullsight/check/Nullness"))) (by decide +kernel) rfl rfl (W := 0) (by show 2 * 0 + _ ≤ _; exact Nat.le_of_eq rfl) (hb hby at_126) (by decide) (by decide) (by decide) (by decide)
      have N65 := Fr.app N43 (Fr.nil n0)
      refine own_go st65 ?_
      show own_G p e below _ T65 (mkF m 129 #[.val (.int i0), .val (.int i1), .val (.ref a1), .val (.ref a10), .val (.int (3 : Int32)), .val (.int (3 : Int32)), .unset, .unset] [(own_meet a_NOT_NULL a_UNKNOWN a_NULL a_NULLABLE a_NULLABLE a_NULLABLE)])
      have r65 : (own_meet a_NOT_NULL a_UNKNOWN a_NULL a_NULLABLE a_NULLABLE a_NULLABLE) = (.ref a_NULLABLE) := by unfold own_meet; rw [if_neg (Fld.ne F_NULLABLE_ordinal F_NOT_NULL_ordinal (own_neV (by decide))), if_neg (Fld.ne F_NULLABLE_ordinal F_NULL_ordinal (own_neV (by decide))), if_neg (Fld.ne F_NULLABLE_ordinal F_NOT_NULL_ordinal (own_neV (by decide))), if_neg (Fld.ne F_NULLABLE_ordinal F_NULL_ordinal (own_neV (by decide))), if_pos (rfl : a_NULLABLE = a_NULLABLE)]
      rw [r65]
      show own_G p e below _ T65 (mkF m 129 #[.val (.int i0), .val (.int i1), .val (.ref a1), .val (.ref a10), .val (.int (3 : Int32)), .val (.int (3 : Int32)), .unset, .unset] [(.ref a_NULLABLE)])
      refine own_go (fun t k => XS.astore X65.here hx rfl (hb hby at_129) rfl rfl (l' := #[.val (.int i0), .val (.int i1), .val (.ref a1), .val (.ref a10), .val (.int (3 : Int32)), .val (.int (3 : Int32)), .val (.ref a_NULLABLE), .unset]) rfl k) ?_
      show own_G p e below _ T65 (mkF m 131 #[.val (.int i0), .val (.int i1), .val (.ref a1), .val (.ref a10), .val (.int (3 : Int32)), .val (.int (3 : Int32)), .val (.ref a_NULLABLE), .unset] [])
      refine own_go (fun t k => XS.aloadN X65.here hx rfl (hb hby at_131) rfl rfl k) ?_
      show own_G p e below _ T65 (mkF m 132 #[.val (.int i0), .val (.int i1), .val (.ref a1), .val (.ref a10), .val (.int (3 : Int32)), .val (.int (3 : Int32)), .val (.ref a_NULLABLE), .unset] [(.ref a10)])
      refine own_go (fun t k => XS.iload X65.here hx rfl (hb hby at_132) rfl k) ?_
      show own_G p e below _ T65 (mkF m 134 #[.val (.int i0), .val (.int i1), .val (.ref a1), .val (.ref a10), .val (.int (3 : Int32)), .val (.int (3 : Int32)), .val (.ref a_NULLABLE), .unset] [(.int (3 : Int32)), (.ref a10)])
      refine own_go (fun t k => XS.iconst X65.here hx rfl (hb hby at_134) k) ?_
      show own_G p e below _ T65 (mkF m 135 #[.val (.int i0), .val (.int i1), .val (.ref a1), .val (.ref a10), .val (.int (3 : Int32)), .val (.int (3 : Int32)), .val (.ref a_NULLABLE), .unset] [(.int (4 : Int32)), (.int (3 : Int32)), (.ref a10)])
      refine own_go (fun t k => XS.imul X65.here hx rfl (hb hby at_135) rfl k) ?_
      show own_G p e below _ T65 (mkF m 136 #[.val (.int i0), .val (.int i1), .val (.ref a1), .val (.ref a10), .val (.int (3 : Int32)), .val (.int (3 : Int32)), .val (.ref a_NULLABLE), .unset] [(.int (12 : Int32)), (.ref a10)])
      refine own_go (fun t k => XS.iload X65.here hx rfl (hb hby at_136) rfl k) ?_
      show own_G p e below _ T65 (mkF m 138 #[.val (.int i0), .val (.int i1), .val (.ref a1), .val (.ref a10), .val (.int (3 : Int32)), .val (.int (3 : Int32)), .val (.ref a_NULLABLE), .unset] [(.int (3 : Int32)), (.int (12 : Int32)), (.ref a10)])
      refine own_go (fun t k => XS.iadd X65.here hx rfl (hb hby at_138) rfl k) ?_
      show own_G p e below _ T65 (mkF m 139 #[.val (.int i0), .val (.int i1), .val (.ref a1), .val (.ref a10), .val (.int (3 : Int32)), .val (.int (3 : Int32)), .val (.ref a_NULLABLE), .unset] [(.int (15 : Int32)), (.ref a10)])
      refine own_go (X65.iaload hx (j := (15 : Int32)) (v := (.int (3 : Int32))) (by rw [q65]; exact A43.1) (State.isArrayOf_alike hZ.alike A43.2.1) A43.2.2 (own_in (n := 16) rfl (by decide)) rfl (g := (mkF m 139 #[.val (.int i0), .val (.int i1), .val (.ref a1), .val (.ref a10), .val (.int (3 : Int32)), .val (.int (3 : Int32)), .val (.ref a_NULLABLE), .unset] [(.int (15 : Int32)), (.ref a10)])) rfl rfl (hb hby at_139)) ?_
      show own_G p e below _ T65 (mkF m 140 #[.val (.int i0), .val (.int i1), .val (.ref a1), .val (.ref a10), .val (.int (3 : Int32)), .val (.int (3 : Int32)), .val (.ref a_NULLABLE), .unset] [(.int (3 : Int32))])
      refine own_go (fun t k => XS.istore X65.here hx rfl (hb hby at_140) rfl (l' := #[.val (.int i0), .val (.int i1), .val (.ref a1), .val (.ref a10), .val (.int (3 : Int32)), .val (.int (3 : Int32)), .val (.ref a_NULLABLE), .val (.int (3 : Int32))]) rfl k) ?_
      show own_G p e below _ T65 (mkF m 142 #[.val (.int i0), .val (.int i1), .val (.ref a1), .val (.ref a10), .val (.int (3 : Int32)), .val (.int (3 : Int32)), .val (.ref a_NULLABLE), .val (.int (3 : Int32))] [])
      refine own_go (fun t k => XS.iload X65.here hx rfl (hb hby at_142) rfl k) ?_
      show own_G p e below _ T65 (mkF m 144 #[.val (.int i0), .val (.int i1), .val (.ref a1), .val (.ref a10), .val (.int (3 : Int32)), .val (.int (3 : Int32)), .val (.ref a_NULLABLE), .val (.int (3 : Int32))] [(.int (3 : Int32))])
      refine own_go (fun t k => XS.ifYes X65.here hx rfl (pc0 := 144) (pc' := 158) rfl (hb hby at_144) rfl (by decide) (by decide) (by decide) k) ?_
      show own_G p e below _ T65 (mkF m 158 #[.val (.int i0), .val (.int i1), .val (.ref a1), .val (.ref a10), .val (.int (3 : Int32)), .val (.int (3 : Int32)), .val (.ref a_NULLABLE), .val (.int (3 : Int32))] [])
      refine own_go (fun t k => XS.aload X65.here hx rfl (hb hby at_158) rfl rfl k) ?_
      show own_G p e below _ T65 (mkF m 160 #[.val (.int i0), .val (.int i1), .val (.ref a1), .val (.ref a10), .val (.int (3 : Int32)), .val (.int (3 : Int32)), .val (.ref a_NULLABLE), .val (.int (3 : Int32))] [(.ref a_NULLABLE)])
      refine own_go (fun t k => XS.aloadN X65.here hx rfl (hb hby at_160) rfl rfl k) ?_
      show own_G p e below _ T65 (mkF m 161 #[.val (.int i0), .val (.int i1), .val (.ref a1), .val (.ref a10), .val (.int (3 : Int32)), .val (.int (3 : Int32)), .val (.ref a_NULLABLE), .val (.int (3 : Int32))] [(.ref a1), (.ref a_NULLABLE)])
      refine own_go (fun t k => XS.iload X65.here hx rfl (hb hby at_161) rfl k) ?_
      show own_G p e below _ T65 (mkF m 163 #[.val (.int i0), .val (.int i1), .val (.ref a1), .val (.ref a10), .val (.int (3 : Int32)), .val (.int (3 : Int32)), .val (.ref a_NULLABLE), .val (.int (3 : Int32))] [(.int (3 : Int32)), (.ref a1), (.ref a_NULLABLE)])
      refine own_go (X65.aaload hx (j := (3 : Int32)) (v := (.ref a_NULLABLE)) (by rw [q65]; exact A44.1) (State.isArrayOf_alike hZ.alike A44.2.1) rfl A44.2.2 (own_in (n := 4) rfl (by decide)) rfl (g := (mkF m 163 #[.val (.int i0), .val (.int i1), .val (.ref a1), .val (.ref a10), .val (.int (3 : Int32)), .val (.int (3 : Int32)), .val (.ref a_NULLABLE), .val (.int (3 : Int32))] [(.int (3 : Int32)), (.ref a1), (.ref a_NULLABLE)])) rfl rfl (hb hby at_163)) ?_
      show own_G p e below _ T65 (mkF m 164 #[.val (.int i0), .val (.int i1), .val (.ref a1), .val (.ref a10), .val (.int (3 : Int32)), .val (.int (3 : Int32)), .val (.ref a_NULLABLE), .val (.int (3 : Int32))] [(.ref a_NULLABLE), (.ref a_NULLABLE)])
      refine own_go (fun t k => Jvm.Free.XT.acmpNo X65.here hx rfl (hb hby at_164) rfl rfl rfl (own_acnF rfl) k) ?_
      show own_G p e below _ T65 (mkF m 167 #[.val (.int i0), .val (.int i1), .val (.ref a1), .val (.ref a10), .val (.int (3 : Int32)), .val (.int (3 : Int32)), .val (.ref a_NULLABLE), .val (.int (3 : Int32))] [])
      refine own_go (fun t k => XS.iconst X65.here hx rfl (hb hby at_167) k) ?_
      show own_G p e below _ T65 (mkF m 168 #[.val (.int i0), .val (.int i1), .val (.ref a1), .val (.ref a10), .val (.int (3 : Int32)), .val (.int (3 : Int32)), .val (.ref a_NULLABLE), .val (.int (3 : Int32))] [(.int (1 : Int32))])
      refine own_go (fun t k => XS.goto X65.here hx rfl (pc0 := 168) (pc' := 172) rfl (hb hby at_168) (by decide) (by decide) k) ?_
      show own_G p e below _ T65 (mkF m 172 #[.val (.int i0), .val (.int i1), .val (.ref a1), .val (.ref a10), .val (.int (3 : Int32)), .val (.int (3 : Int32)), .val (.ref a_NULLABLE), .val (.int (3 : Int32))] [(.int (1 : Int32))])
      exact own_retN X65 hx hlk hret (by simp) (hb hby at_172) (by decide) (by decide) ⟨rfl, N65⟩
set_option maxRecDepth 65536 in
set_option maxHeartbeats 40000000 in
theorem comes_1 {Post : Tables → Env → Array Value → State → Outcome → State → Prop} (hpost : ∀ tb e args s v u, (limb_1_1.after args s (.returned v) u = true ∧ limb_1_2.after args s (.returned v) u = true ∧ True) → FrameEnd s (.returned v) u (Jvm.fieldLocs frame_1_writes args s ++ Jvm.arrayLocs frame_1_arrays args s ++ Jvm.staticLocs frame_1_statics s) 16 128 → Post tb e args s (.returned v) u) :
    ArmFor flags0 classFile x code maxLocals ret World_1 tables_1 room_1 Calls_1 rest_1 Pre_1 Post := by
  intro l hfl _ _ p e ha hc hk s m args below hf hA hF happ hP
  obtain ⟨hcalls, hrest, hpre⟩ := hP
  obtain ⟨-, -, -, hnamed, -, -, -, hat⟩ := (Spec.applies_iff hf).mp happ
  obtain ⟨hg, hn⟩ := and_e (Cond.before_iff.mp (show (Jvm.Cond.and given_1 narrow_1).before args s = true from hpre))
  obtain ⟨h1, hg⟩ := and_e hg
  obtain ⟨w0, w1, rfl⟩ : ∃ w0 w1 : Value, args = #[w0, w1] := by
    have hs : args.size = 2 := by simpa [Cond.value, given_1] using h1
    obtain ⟨L⟩ := args
    match L, hs with
    | [w0, w1], _ => exact ⟨w0, w1, rfl⟩
  obtain ⟨hi0, hg⟩ := and_e hg
  obtain ⟨i0, ei0⟩ := is_v hi0
  obtain rfl : w0 = (.int i0) := Option.some.inj ei0
  obtain ⟨i1, ei1⟩ := is_v hg
  obtain rfl : w1 = (.int i1) := Option.some.inj ei1
  have hw := fun d (hd : d ∈ tables_1) => atoms_spec (ws := Jvm.Cond.code x code maxLocals ret :: tables_1) hat d (List.mem_cons_of_mem _ hd)
  obtain ⟨n0, hn⟩ := and_e hn
  obtain ⟨a_NOT_NULL, v_NOT_NULL⟩ := exa_v n0
  have S_NOT_NULL := Sta.start v_NOT_NULL (Or.inr ⟨(hw _ (List.mem_of_getElem? (i := 3) rfl)), (hw _ (List.mem_of_getElem? (i := 4) rfl))⟩)
  have E_NOT_NULL := Exa.start v_NOT_NULL n0
  obtain ⟨n1, hn⟩ := and_e hn
  obtain ⟨a_UNKNOWN, v_UNKNOWN⟩ := exa_v n1
  have S_UNKNOWN := Sta.start v_UNKNOWN (Or.inr ⟨(hw _ (List.mem_of_getElem? (i := 3) rfl)), (hw _ (List.mem_of_getElem? (i := 7) rfl))⟩)
  have E_UNKNOWN := Exa.start v_UNKNOWN n1
  obtain ⟨n2, hn⟩ := and_e hn
  obtain ⟨a_NULL, v_NULL⟩ := exa_v n2
  have S_NULL := Sta.start v_NULL (Or.inr ⟨(hw _ (List.mem_of_getElem? (i := 3) rfl)), (hw _ (List.mem_of_getElem? (i := 9) rfl))⟩)
  have E_NULL := Exa.start v_NULL n2
  obtain ⟨n3, hn⟩ := and_e hn
  obtain ⟨a_NULLABLE, v_NULLABLE⟩ := exa_v n3
  have S_NULLABLE := Sta.start v_NULLABLE (Or.inr ⟨(hw _ (List.mem_of_getElem? (i := 3) rfl)), (hw _ (List.mem_of_getElem? (i := 11) rfl))⟩)
  have E_NULLABLE := Exa.start v_NULLABLE n3
  obtain ⟨n4, hn⟩ := and_e hn
  have F_NULLABLE_ordinal := own_fld v_NULLABLE n4
  obtain ⟨n5, hn⟩ := and_e hn
  have F_NOT_NULL_ordinal := own_fld v_NOT_NULL n5
  obtain ⟨n6, hn⟩ := and_e hn
  have F_NULL_ordinal := own_fld v_NULL n6
  have F_UNKNOWN_ordinal := own_fld v_UNKNOWN hn
  have B : own_B s s.heap a_NOT_NULL a_UNKNOWN a_NULL a_NULLABLE := ⟨S_NOT_NULL, E_NOT_NULL, S_UNKNOWN, E_UNKNOWN, S_NULL, E_NULL, S_NULLABLE, E_NULLABLE, F_NULLABLE_ordinal, F_NOT_NULL_ordinal, F_NULL_ordinal, F_UNKNOWN_ordinal⟩
  obtain ⟨n, o, h1, h2, h3, _, L, rfl, ⟨rfl, N⟩, hq⟩ := rm0 l s _ hw i0 i1 a_NOT_NULL a_UNKNOWN a_NULL a_NULLABLE s.heap s.heap.size (Nat.le_refl _) B tables_1 p e ha hc hk s m _ below hf ((Spec.applies_iff_loose hf).mp happ).1 ⟨rfl, State.Warmed39.refl s, rfl⟩ trivial
  refine ⟨n, _, h1, h2, h3, hpost _ _ _ _ _ _ ⟨Jvm.Cond.after_iff.mpr rfl, Jvm.Cond.after_iff.mpr (eq_i res_at (Term.int_eval (1)) rfl), trivial⟩ ⟨hq.1, hq.2.1, (hq.2.2.sift fun y hy => Or.inr (N y hy)).mono (by decide) (by decide)⟩⟩
theorem main_1_1 : Claimed_1_1 := comes_1 fun _ _ _ _ _ _ h hF => ⟨h.1, hF⟩
theorem main_1_2 : Claimed_1_2 := comes_1 fun _ _ _ _ _ _ h hF => ⟨h.2.1, hF⟩
end Jvm.Pilot.@@N@@
namespace Jvm.Pilot.@@N@@
open Jvm Jvm.ClassFile Sem Op Lib Jvm.Free Jvm.Stand Jvm.Pilot.@@N@@.Jvm.D
/-! MADE BY PROGRAM (witnessworld.py) out of the Statement's table words and the real class files: 13 classes; the members and pool entries that the words name. The judged class is class 1, her method 1. -/
namespace start1
open Jvm.ClassFile
def u (s : String) : CpInfo := .utf8 (stringToUtf16 s)
/-- a pool by its gaps: so many unusable entries, then the entry; so many at the end -/
def gap : Nat → List CpInfo → List CpInfo
  | 0, r => r
  | n + 1, r => .unusable :: gap n r
def poolList (es : List (Nat × CpInfo)) (last : Nat) : List CpInfo := es.foldr (fun e r => gap e.1 (e.2 :: r)) (gap last [])
def pool (es : List (Nat × CpInfo)) (last : Nat) : Array CpInfo := ⟨poolList es last⟩
def fileOf (pool : Array CpInfo) (this : Nat) (attrs : Array Attribute := #[]) (ms : Array MethodInfo := #[]) (fl : Nat := 33) (sup : Nat := 0) (ifs : Array Nat := #[]) (fds : Array FieldInfo := #[]) : ClassFile where
  minorVersion := 0
  majorVersion := 65
  constantPool := pool
  accessFlags := fl
  thisClass := this
  superClass := sup
  interfaces := ifs
  fields := fds
  methods := ms
  attributes := attrs
def plain (name : String) (sup : Option ClassId) : Class where
  name := name
  kind := .ordinary
  loader := none
  accessFlags := 33
  super := sup
  interfaces := #[]
  cf := none
  fields := #[]
  methods := #[]
  instanceTypes := #[]
  staticTypes := #[]
  resolved := #[]
  callSites := []
  init := .initialized
  statics := none
  mirror := none

def pool0 : Array CpInfo := pool [(5, u "<init>"), (0, u "()V"), (1, .class_ 10), (1, u "java/lang/Object")] 113

def k0m0 : Method := { name := "<init>", desc := "()V", sig := { parameters := [], returnType := none }, accessFlags := 1, code := none }
/-- java/lang/Object -/
def k0 : Class := { plain "java/lang/Object" none with
  accessFlags := 33
  interfaces := #[]
  cf := some (fileOf pool0 8 #[] #[{ accessFlags := 1, nameIndex := 5, descriptorIndex := 6, attributes := #[] }] 33 0 #[] #[])
  fields := #[]
  methods := #[k0m0]
  instanceTypes := #[]
  staticTypes := #[]
  resolved := Array.replicate 124 none
  statics := none }

def pool1 : Array CpInfo := pool [(2, .class_ 4), (1, u "java/lang/Object"), (0, u "<init>"), (0, u "()V"), (0, .class_ 8), (0, u "com/example/nullsight/nullsight/check/Nullness"), (0, .fieldref 7 10), (0, .nameAndType 11 12), (0, u "NOT_NULL"), (0, u "Lcom/example/nullsight/nullsight/check/Nullness;"), (0, .fieldref 7 14), (0, .nameAndType 15 12), (0, u "UNKNOWN"), (0, .fieldref 7 17), (0, .nameAndType 18 12), (0, u "NULL"), (0, .fieldref 7 20), (0, .nameAndType 21 12), (0, u "NULLABLE"), (0, .methodref 7 23), (0, .nameAndType 24 25), (0, u "meet"), (0, u "(Lcom/example/nullsight/nullsight/check/Nullness;)Lcom/example/nullsight/nullsight/check/Nullness;"), (0, .class_ 27), (0, u "com/example/nullsight/nullsight/check/NullnessMeetPinLaw"), (2, u "law"), (0, u "(II)Z")] 7

def k1m0 : Method := { name := "<init>", desc := "()V", sig := { parameters := [], returnType := none }, accessFlags := 1, code := none }
def k1c1 : Code := { maxStack := 4, maxLocals := 8, code := code, exceptionTable := #[], attributes := #[] }
def k1m1 : Method := { name := "law", desc := "(II)Z", sig := { parameters := [.int, .int], returnType := some .boolean }, accessFlags := 9, code := some k1c1 }
/-- com/example/nullsight/nullsight/check/NullnessMeetPinLaw -/
def k1 : Class := { plain "com/example/nullsight/nullsight/check/NullnessMeetPinLaw" (some 0) with
  accessFlags := 49
  interfaces := #[]
  cf := some (fileOf pool1 26 #[] #[{ accessFlags := 1, nameIndex := 5, descriptorIndex := 6, attributes := #[] }, { accessFlags := 9, nameIndex := 30, descriptorIndex := 31, attributes := #[] }] 49 2 #[] #[])
  fields := #[]
  methods := #[k1m0, k1m1]
  instanceTypes := #[]
  staticTypes := #[]
  resolved := Array.replicate 39 none
  statics := none }

def pool2 : Array CpInfo := pool [(1, .class_ 2), (0, u "java/lang/constant/Constable"), (0, .class_ 4), (0, u "java/lang/Object")] 6

/-- java/lang/constant/Constable -/
def k2 : Class := { plain "java/lang/constant/Constable" (some 0) with
  accessFlags := 1537
  interfaces := #[]
  cf := some (fileOf pool2 1 #[] #[] 1537 3 #[] #[])
  fields := #[]
  methods := #[]
  instanceTypes := #[]
  staticTypes := #[]
  resolved := Array.replicate 11 none
  statics := none }

def pool3 : Array CpInfo := pool [(1, .class_ 2), (0, u "java/lang/Comparable"), (0, .class_ 4), (0, u "java/lang/Object")] 7

/-- java/lang/Comparable -/
def k3 : Class := { plain "java/lang/Comparable" (some 0) with
  accessFlags := 1537
  interfaces := #[]
  cf := some (fileOf pool3 1 #[] #[] 1537 3 #[] #[])
  fields := #[]
  methods := #[]
  instanceTypes := #[]
  staticTypes := #[]
  resolved := Array.replicate 12 none
  statics := none }

def pool4 : Array CpInfo := pool [(1, .class_ 2), (0, u "java/io/Serializable"), (0, .class_ 4), (0, u "java/lang/Object")] 2

/-- java/io/Serializable -/
def k4 : Class := { plain "java/io/Serializable" (some 0) with
  accessFlags := 1537
  interfaces := #[]
  cf := some (fileOf pool4 1 #[] #[] 1537 3 #[] #[])
  fields := #[]
  methods := #[]
  instanceTypes := #[]
  staticTypes := #[]
  resolved := Array.replicate 7 none
  statics := none }

def pool5 : Array CpInfo := pool [(2, .class_ 4), (1, u "java/lang/Enum"), (0, u "name"), (0, u "Ljava/lang/String;"), (2, u "ordinal"), (0, u "I"), (1, .class_ 14), (1, u "java/lang/Object"), (4, u "hash"), (86, .class_ 108), (1, u "java/lang/Enum$EnumDesc"), (2, .class_ 112), (0, u "java/lang/constant/Constable"), (0, .class_ 114), (0, u "java/lang/Comparable"), (0, .class_ 116), (0, u "java/io/Serializable")] 87

/-- java/lang/Enum -/
def k5 : Class := { plain "java/lang/Enum" (some 0) with
  accessFlags := 1057
  interfaces := #[2, 3, 4]
  cf := some (fileOf pool5 2 #[.nestMembers #[106]] #[] 1057 12 #[111, 113, 115] #[{ accessFlags := 18, nameIndex := 5, descriptorIndex := 6, attributes := #[] }, { accessFlags := 18, nameIndex := 9, descriptorIndex := 10, attributes := #[] }, { accessFlags := 2, nameIndex := 19, descriptorIndex := 10, attributes := #[] }])
  fields := #[{ name := "name", type := (.object "java/lang/String"), accessFlags := 18, slot := 0, constantValue := 0 }, { name := "ordinal", type := .int, accessFlags := 18, slot := 1, constantValue := 0 }, { name := "hash", type := .int, accessFlags := 2, slot := 2, constantValue := 0 }]
  methods := #[]
  instanceTypes := #[(.object "java/lang/String"), .int, .int]
  staticTypes := #[]
  resolved := Array.replicate 204 none
  statics := none }

def pool6 : Array CpInfo := pool [(1, .class_ 2), (0, u "com/example/nullsight/nullsight/check/Nullness"), (0, .fieldref 1 4), (0, .nameAndType 5 6), (0, u "NOT_NULL"), (0, u "Lcom/example/nullsight/nullsight/check/Nullness;"), (0, .fieldref 1 8), (0, .nameAndType 9 6), (0, u "UNKNOWN"), (0, .fieldref 1 11), (0, .nameAndType 12 6), (0, u "NULL"), (2, u "NULLABLE"), (2, u "$VALUES"), (0, u "[Lcom/example/nullsight/nullsight/check/Nullness;"), (6, .class_ 28), (1, u "java/lang/Enum"), (8, u "word"), (0, u "Ljava/lang/String;"), (28, u "(Lcom/example/nullsight/nullsight/check/Nullness;)Lcom/example/nullsight/nullsight/check/Nullness;"), (1, u "meet")] 5

def k6c0 : Code := { maxStack := 2, maxLocals := 5, code := prog_2_method_6_code, exceptionTable := #[], attributes := #[] }
def k6m0 : Method := { name := "meet", desc := "(Lcom/example/nullsight/nullsight/check/Nullness;)Lcom/example/nullsight/nullsight/check/Nullness;", sig := { parameters := [(.object "com/example/nullsight/nullsight/check/Nullness")], returnType := some (.object "com/example/nullsight/nullsight/check/Nullness") }, accessFlags := 0, code := some k6c0 }
/-- com/example/nullsight/nullsight/check/Nullness -/
def k6 : Class := { plain "com/example/nullsight/nullsight/check/Nullness" (some 5) with
  accessFlags := 16433
  interfaces := #[]
  cf := some (fileOf pool6 1 #[] #[{ accessFlags := 0, nameIndex := 69, descriptorIndex := 67, attributes := #[] }] 16433 26 #[] #[{ accessFlags := 16409, nameIndex := 5, descriptorIndex := 6, attributes := #[] }, { accessFlags := 16409, nameIndex := 9, descriptorIndex := 6, attributes := #[] }, { accessFlags := 16409, nameIndex := 12, descriptorIndex := 6, attributes := #[] }, { accessFlags := 16409, nameIndex := 15, descriptorIndex := 6, attributes := #[] }, { accessFlags := 18, nameIndex := 37, descriptorIndex := 38, attributes := #[] }, { accessFlags := 4122, nameIndex := 18, descriptorIndex := 19, attributes := #[] }])
  fields := #[{ name := "NOT_NULL", type := (.object "com/example/nullsight/nullsight/check/Nullness"), accessFlags := 16409, slot := 0, constantValue := 0 }, { name := "UNKNOWN", type := (.object "com/example/nullsight/nullsight/check/Nullness"), accessFlags := 16409, slot := 1, constantValue := 0 }, { name := "NULL", type := (.object "com/example/nullsight/nullsight/check/Nullness"), accessFlags := 16409, slot := 2, constantValue := 0 }, { name := "NULLABLE", type := (.object "com/example/nullsight/nullsight/check/Nullness"), accessFlags := 16409, slot := 3, constantValue := 0 }, { name := "word", type := (.object "java/lang/String"), accessFlags := 18, slot := 3, constantValue := 0 }, { name := "$VALUES", type := (.array (.object "com/example/nullsight/nullsight/check/Nullness")), accessFlags := 4122, slot := 4, constantValue := 0 }]
  methods := #[k6m0]
  instanceTypes := #[(.object "java/lang/String"), .int, .int, (.object "java/lang/String")]
  staticTypes := #[(.object "com/example/nullsight/nullsight/check/Nullness"), (.object "com/example/nullsight/nullsight/check/Nullness"), (.object "com/example/nullsight/nullsight/check/Nullness"), (.object "com/example/nullsight/nullsight/check/Nullness"), (.array (.object "com/example/nullsight/nullsight/check/Nullness"))]
  resolved := Array.replicate 75 none
  statics := some 0 }

def pool7 : Array CpInfo := pool [(1, u "java/lang/Cloneable"), (0, .class_ 1), (0, u "java/lang/Object"), (0, .class_ 3)] 3

/-- java/lang/Cloneable -/
def k7 : Class := { plain "java/lang/Cloneable" (some 0) with
  accessFlags := 1537
  interfaces := #[]
  cf := some (fileOf pool7 2 #[] #[] 1537 4 #[] #[])
  fields := #[]
  methods := #[]
  instanceTypes := #[]
  staticTypes := #[]
  resolved := Array.replicate 8 none
  statics := none }

/-- the primitive byte -/
def k8 : Class := { plain "byte" none with kind := .primitive 'B', accessFlags := 0x411 }
/-- [B -/
def k9 : Class := { plain "[B" (some 0) with kind := .array 8 .byte, interfaces := #[7, 4], accessFlags := 1041 }

/-- the primitive int -/
def k10 : Class := { plain "int" none with kind := .primitive 'I', accessFlags := 0x411 }
/-- [I -/
def k11 : Class := { plain "[I" (some 0) with kind := .array 10 .int, interfaces := #[7, 4], accessFlags := 1041 }

/-- [Lcom/example/nullsight/nullsight/check/Nullness; -/
def k12 : Class := { plain "[Lcom/example/nullsight/nullsight/check/Nullness;" (some 0) with kind := .array 6 (.object "com/example/nullsight/nullsight/check/Nullness"), interfaces := #[7, 4], accessFlags := 1041 }

def heap : Heap := #[{ cls := 6, slots := #[.ref 1, .ref 2, .ref 3, .ref 4, .null], vm := .statics 6 },
  { cls := 6, slots := #[.null, .int 0, .int 0, .null], vm := .none },
  { cls := 6, slots := #[.null, .int 1, .int 0, .null], vm := .none },
  { cls := 6, slots := #[.null, .int 2, .int 0, .null], vm := .none },
  { cls := 6, slots := #[.null, .int 3, .int 0, .null], vm := .none }]
def classes : Array Class := #[k0, k1, k2, k3, k4, k5, k6, k7, k8, k9, k10, k11, k12]
def interned : List (Array UInt16 × Addr) := []
def slotsUsed : Nat := 21
def theMethod : MethodId := ⟨1, 1⟩
def args0 : Array Value := #[.int 5, .int 1]
def aboutOver (below : List Frame) : State where
  vm := { classes := classes, interned := interned.toArray }
  heap := heap
  slotsUsed := slotsUsed
  threads := #[{ frames := .invoking theMethod args0 :: below }]
def below0 : List Frame := [.native { method := ⟨0, 0⟩, args := #[] }]
def about1 : State := aboutOver below0
def p0 : Program := .bare "" "" ""
def e0 : Env := launch0.env 0 0 0
theorem w_frames : about1.frames = Frame.invoking theMethod args0 :: below0 := rfl
set_option maxRecDepth 65536 in
theorem w_args : argsFit about1.vm theMethod args0 = true := by decide +kernel
set_option maxRecDepth 65536 in
theorem w_heap : heapFits about1 = true := by decide +kernel
set_option maxRecDepth 65536 in
theorem w_runnable : about1.curStatus? = some .runnable := by decide +kernel
set_option maxRecDepth 65536 in
theorem w_alone : about1.alone = true := by decide +kernel
set_option maxRecDepth 65536 in
theorem w_named : about1.methodNamed? x = some theMethod := by decide +kernel
set_option maxRecDepth 65536 in
theorem w_hears : about1.hears theMethod below0 = true := by decide +kernel
set_option maxRecDepth 65536 in
theorem w_ripe : about1.ripe theMethod args0 below0 = true := by decide +kernel
theorem w_running : about1.status = .running := rfl
set_option maxRecDepth 65536 in
theorem w_room : about1.hasRoom e0.platform room_1 = true :=
  launch0.hasRoom_least _ room_1 (by decide +kernel) (by decide +kernel) (by decide +kernel) (by decide +kernel) (by decide +kernel) (by decide +kernel)
theorem allAtoms_all (ts : List Jvm.Cond) (a : Array Jvm.Value) (st : Jvm.State) : (allAtoms ts).before a st = ts.all (fun c => c.before a st) := by
  induction ts with
  | nil => rfl
  | cons c t ih =>
    show (Jvm.Cond.and c (allAtoms t)).before a st = _
    rw [Jvm.Cond.before_and, ih, List.all_cons]
def words1 : List Jvm.Cond := Jvm.Cond.code x code maxLocals ret :: tables_1
/-- a 'code' word, met by the world's own term for the bytes: nothing is compared byte by byte -/
theorem code_word {y : MethodName} {bytes : ByteArray} {mx : Nat} {rt : Option FieldType} {a : Array Value} {s : State} {m : MethodId} {meth : Method} {c : Code} (h1 : s.methodNamed? y = some m) (h2 : s.vm.method? m = some meth) (h3 : meth.code = some c) (h4 : c.code = bytes)
    (h5 : (c.maxLocals == mx && c.exceptionTable.isEmpty && decide (c.maxStack ≤ mostOperands) && decide (meth.sig.returnType = rt) && !meth.locks && decide (parseMethodDescriptor y.desc = some meth.sig)) = true) : (Jvm.Cond.code y bytes mx rt).before a s = true := by
  simp only [Bool.and_eq_true, beq_iff_eq, Bool.not_eq_true', decide_eq_true_eq] at h5
  obtain ⟨⟨⟨⟨⟨g1, g2⟩, g3⟩, g4⟩, g5⟩, g6⟩ := h5
  simp [Cond.before, Cond.holds, Cond.value, h1, h2, h3, h4, g1, g2, g3, g4, g5, g6]
def isCode : Jvm.Cond → Bool
  | .code _ _ _ _ => true
  | _ => false
theorem all_split {L : List Jvm.Cond} {P : Jvm.Cond → Bool} (h1 : L.all (fun c => isCode c || P c) = true) (h2 : ∀ c ∈ L.filter isCode, P c = true) : L.all P = true := by
  refine List.all_eq_true.mpr fun c hc => ?_
  have h := List.all_eq_true.mp h1 c hc
  rcases Bool.eq_false_or_eq_true (isCode c) with hi | hi
  · exact h2 c (List.mem_filter.mpr ⟨hc, hi⟩)
  · simpa [hi] using h
set_option maxRecDepth 65536 in
theorem w_c0 : (Jvm.Cond.code x code maxLocals ret).before args0 about1 = true := code_word (m := ⟨1, 1⟩) (meth := k1m1) (c := k1c1) (by decide +kernel) rfl rfl rfl (by decide +kernel)
set_option maxRecDepth 65536 in
theorem w_c1 : (Jvm.Cond.code ({ cls := "com/example/nullsight/nullsight/check/Nullness", name := "meet", desc := "(Lcom/example/nullsight/nullsight/check/Nullness;)Lcom/example/nullsight/nullsight/check/Nullness;" } : Jvm.MethodName) prog_2_method_6_code (5 : Nat) (Option.some (Jvm.ClassFile.FieldType.object "com/example/nullsight/nullsight/check/Nullness"))).before args0 about1 = true := code_word (m := ⟨6, 0⟩) (meth := k6m0) (c := k6c0) (by decide +kernel) rfl rfl rfl (by decide +kernel)
def codes1 : List Jvm.Cond := [Jvm.Cond.code x code maxLocals ret, Jvm.Cond.code ({ cls := "com/example/nullsight/nullsight/check/Nullness", name := "meet", desc := "(Lcom/example/nullsight/nullsight/check/Nullness;)Lcom/example/nullsight/nullsight/check/Nullness;" } : Jvm.MethodName) prog_2_method_6_code (5 : Nat) (Option.some (Jvm.ClassFile.FieldType.object "com/example/nullsight/nullsight/check/Nullness"))]
set_option maxRecDepth 65536 in
theorem codes_eq : words1.filter isCode = codes1 := rfl
theorem w_codes : ∀ c ∈ words1.filter isCode, c.before args0 about1 = true := by
  rw [codes_eq]
  intro c hc
  simp only [codes1, List.mem_cons, List.not_mem_nil, or_false] at hc
  rcases hc with rfl | rfl
  · exact w_c0
  · exact w_c1
set_option maxRecDepth 65536 in
theorem w_t1 : words1.all (fun c => isCode c || c.before args0 about1) = true := by decide +kernel
theorem w_tables : (allAtoms (Jvm.Cond.code x code maxLocals ret :: tables_1)).before args0 about1 = true := by
  rw [allAtoms_all]
  show words1.all (fun c => c.before args0 about1) = true
  refine all_split ?_ w_codes
  rw [w_t1]
set_option maxRecDepth 65536 in
theorem w_case : (Jvm.Cond.and given_1 narrow_1).before args0 about1 = true := by decide +kernel
theorem w_applies : (headSpec (Jvm.Cond.code x code maxLocals ret :: tables_1) room_1).applies x e0.platform about1 = true :=
  (Spec.applies_iff w_frames).mpr ⟨w_running, w_runnable, w_alone, w_named, w_hears, w_ripe, w_room, w_tables⟩
theorem atStart : AtStart classFile x code maxLocals ret World_1 tables_1 room_1 Calls_1 rest_1 Pre_1 launch0 p0 e0 about1 theMethod args0 below0 :=
  ⟨lists_1, trivial, launch0.admits_env _ _ _, launch0.least_env, fairChoices_fair.cas, fairChoices_fair.clock, w_frames, w_args, w_heap, w_applies, trivial, trivial, w_case⟩
end start1
theorem witness_1 : WitnessClaimed_1 := ⟨start1.p0, start1.e0, start1.about1, start1.theMethod, start1.args0, start1.below0, start1.atStart⟩
end Jvm.Pilot.@@N@@
