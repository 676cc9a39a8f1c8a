import JvmDerived
import JvmDerived.Pilot.@@N@@Statement
import JvmDerived.Pilot.@@N@@Code
set_option linter.unusedVariables false
set_option linter.unusedSimpArgs false
@@BLOCK:NumsL.lean.txt@@
namespace Jvm.Pilot.@@N@@
open Jvm Jvm.ClassFile Sem Op Lib Jvm.Free Jvm.Stand Jvm.LawKit Jvm.RoadKit Bundle Jvm.Pilot.@@N@@.Jvm.D
section Own
variable {p : Program} {l : Launch} {e : Env} {R : Room} {s : State} {m : MethodId} {args : Array Value} {below : List Frame} {meth : Method} {c : Code} {T : State} {locs : List Loc} {cells slots : Nat} {Z : State} {a0 : Array Value} {h : Heap}
/-- from here the walk comes to an end that P holds of -/
def own_G (p : Program) (e : Env) (below : List Frame) (P : State → Outcome → Prop) (T : State) (g : JFrame) : Prop := ∃ t o, Steps p.tables e below (T.setTop g) t ∧ P t o
def own_P (below : List Frame) (s : State) (rm : Room) (Q : Option Value → Heap → List Loc → Prop) (t : State) (o : Outcome) : Prop := t.status = .running ∧ Ended t below o ∧ ∃ v L, o = .returned v ∧ Q v t.heap L ∧ FrameEnd s o t L rm.cells rm.slots
/-- a body's contract: over these arguments and this heap it returns, and Q holds of what it returns, the heap and the places written -/
def own_M (l : Launch) (Z : State) (y : MethodName) (code : ByteArray) (maxL : Nat) (ret : Option FieldType) (rm : Room) (as : Array Value) (h : Heap) (Q : Option Value → Heap → List Loc → Prop) : Prop :=
  ∀ ws : List Jvm.Cond, MetFree l y (head1 (Jvm.Cond.code y code maxL ret :: ws) rm) (fun a U => a = as ∧ Z.Warmed39 U.vm ∧ U.heap = h) (fun _ _ _ _ _ => True) (fun _ U o U' => ∃ v L, o = .returned v ∧ Q v U'.heap L ∧ FrameEnd U o U' L rm.cells rm.slots)
theorem own_go {P : State → Outcome → Prop} {T' : State} {g g' : JFrame} (st : ∀ t, Steps p.tables e below (T'.setTop g') t → Steps p.tables e below (T.setTop g) t) (k : own_G p e below P T' g') : own_G p e below P T g := by
  obtain ⟨t, o, h1, h2⟩ := k
  exact ⟨t, o, st t h1, h2⟩
theorem own_body {y : MethodName} {code : ByteArray} {maxL : Nat} {ret : Option FieldType} {rm : Room} {as : Array Value} {Q : Option Value → Heap → List Loc → Prop} (hn : plainName y.cls = true)
    (body : ∀ (p : Program) (e : Env) (s : State) (m : MethodId) (below : List Frame) (meth : Method) (c : Code) (T : State), p.tables.exec = Jvm.exec → c.code = code → c.maxLocals = maxL → meth.locks = false → s.vm.findClass y.cls = some m.cls → meth.sig.returnType = ret → meth.name = y.name → Z.Warmed39 s.vm → Stand p l e rm s m as below meth c T [] 0 0 → T.heap = h → own_G p e below (own_P below s rm Q) T (entryFrame m as maxL)) :
    own_M l Z y code maxL ret rm as h Q := by
  intro ws
  refine MetFree.of_bodySF (plainFor_of_name hn) hisR ?_
  intro p e s m args below meth c s₁ Bd hml0 hP hK
  obtain ⟨rfl, hZ, hh⟩ := hP
  obtain ⟨t, o, h1, h2, h3, h4⟩ := body p e s m below meth c s₁ Bd.exec Bd.bytes hml0 Bd.notSynchronized (findClass_of_methodNamed Bd.named) Bd.returns (name_of_methodNamed Bd.named Bd.method).1 hZ (Stand.of_body Bd) (by rw [← hh, Bd.state]; rfl)
  exact ⟨t, o, h1, h2, h3, h4⟩
theorem own_retI {rm : Room} {Q : Option Value → Heap → List Loc → Prop} (X : Stand p l e R s m args below meth c T locs cells slots) (hx : p.tables.exec = Jvm.exec) (hlk : meth.locks = false) (hret : meth.sig.returnType = some .int) {pc : Nat} {Ls : Array Slot} {z : Int32} {rest : List Value} (hd : decode c.code pc = .ok (.ireturn, 1)) (hc : cells ≤ rm.cells) (hs : slots ≤ rm.slots) (hQ : Q (some (.int z)) T.heap locs) :
    own_G p e below (own_P below s rm Q) T (mkF m pc Ls (.int z :: rest)) := by
  obtain ⟨fs, hr, hrun, hended, hW, hsame⟩ := X.leave (v := some (.int z)) (fun h => by rw [hret] at h; cases h) hlk
  exact ⟨_, _, retOut X hx hret rfl (Or.inl ⟨rfl, Or.inl rfl, _, rfl⟩) hd hr, hrun, hended, _, _, rfl, hQ, ⟨_, rfl⟩, hW, hsame.mono hc hs⟩
theorem own_retN {rm : Room} {Q : Option Value → Heap → List Loc → Prop} (X : Stand p l e R s m args below meth c T locs cells slots) (hx : p.tables.exec = Jvm.exec) (hlk : meth.locks = false) {t : FieldType} (hret : meth.sig.returnType = some t) (ht : t = .boolean ∨ t = .byte ∨ t = .char ∨ t = .short) {pc : Nat} {Ls : Array Slot} {z : Int32} {rest : List Value} (hd : decode c.code pc = .ok (.ireturn, 1)) (hc : cells ≤ rm.cells) (hs : slots ≤ rm.slots) (hQ : Q (some (.int (nar t z))) T.heap locs) :
    own_G p e below (own_P below s rm Q) T (mkF m pc Ls (.int z :: rest)) := by
  obtain ⟨fs, hr, hrun, hended, hW, hsame⟩ := X.leave (v := some (.int (nar t z))) (fun h => by rw [hret] at h; cases h) hlk
  exact ⟨_, _, retN X hx hret ht hd hr, hrun, hended, _, _, rfl, hQ, ⟨_, rfl⟩, hW, hsame.mono hc hs⟩
theorem own_narrow {t : FieldType} {w : Value} (hw : w.isRef = true) : narrow t w = w := by
  rcases ref_cases hw with rfl | ⟨a, rfl⟩ <;> cases t <;> rfl
theorem own_retA {rm : Room} {Q : Option Value → Heap → List Loc → Prop} (X : Stand p l e R s m args below meth c T locs cells slots) (hx : p.tables.exec = Jvm.exec) (hlk : meth.locks = false) {t : FieldType} (hret : meth.sig.returnType = some t) (ht : t.isReference = true) {pc : Nat} {Ls : Array Slot} {w : Value} {rest : List Value} (hw : w.isRef = true) (hd : decode c.code pc = .ok (.areturn, 1)) (hc : cells ≤ rm.cells) (hs : slots ≤ rm.slots) (hQ : Q (some w) T.heap locs) :
    own_G p e below (own_P below s rm Q) T (mkF m pc Ls (w :: rest)) := by
  obtain ⟨fs, hr, hrun, hended, hW, hsame⟩ := X.leave (v := some w) (fun h => by rw [hret] at h; cases h) hlk
  exact ⟨_, _, retOut X hx hret (own_narrow hw) (Or.inr (Or.inr (Or.inr (Or.inr ⟨rfl, ht, hw⟩)))) hd hr, hrun, hended, _, _, rfl, hQ, ⟨_, rfl⟩, hW, hsame.mono hc hs⟩
theorem own_ret0 {rm : Room} {Q : Option Value → Heap → List Loc → Prop} (X : Stand p l e R s m args below meth c T locs cells slots) (hx : p.tables.exec = Jvm.exec) (hlk : meth.locks = false) (hret : meth.sig.returnType = none) {pc : Nat} {Ls : Array Slot} (hd : decode c.code pc = .ok (.return_, 1)) (hc : cells ≤ rm.cells) (hs : slots ≤ rm.slots) (hQ : Q none T.heap locs) :
    own_G p e below (own_P below s rm Q) T (mkF m pc Ls []) := by
  obtain ⟨fs, hr, hrun, hended, hW, hsame⟩ := X.leave (v := none) (fun _ => rfl) hlk
  exact ⟨_, _, X.returnOut hx hret hd hr, hrun, hended, _, _, rfl, hQ, ⟨_, rfl⟩, hW, hsame.mono hc hs⟩
theorem own_callS (X : Stand p l e R s m args below meth c T locs cells slots) (hx : p.tables.exec = Jvm.exec) (hZ : Z.Warmed39 s.vm) {own : String} {index : Nat} {y : MethodName} {bytes : ByteArray} {maxL : Nat} {ret : Option FieldType} (hown : s.vm.findClass own = some m.cls)
    (w1 : (Jvm.Cond.methodLink own index y).before a0 Z = true) (w2 : (Jvm.Cond.static y).before a0 Z = true) (w3 : (Jvm.Cond.initialized y.cls).before a0 Z = true) (w4 : (Jvm.Cond.code y bytes maxL ret).before a0 Z = true) (hy : y.cls ≠ "java/lang/invoke/MethodHandle" ∧ y.cls ≠ "java/lang/invoke/VarHandle")
    {rm : Room} {argsL rest : List Value} {Q : Option Value → Heap → List Loc → Prop} (hM : own_M l Z y bytes maxL ret rm argsL.toArray h Q) (eT : T.heap = h) {g : JFrame} (hg : g.method = m) (hsize : g.locals.size = c.maxLocals) {ps : List FieldType} {r : Option FieldType} (hpd : parseMethodDescriptor y.desc = some ⟨ps, r⟩) (hpl : argsL.length = ps.length)
    (hstack : g.stack = argsL.reverse ++ rest) {W : Nat} (hW : 2 * g.monitorRoom + (rest.map fun v => v.category).sum ≤ W) (hdg : decode c.code g.pc = .ok (.invokestatic index, 3)) (hf : rm.frames + 1 ≤ R.frames) (hl : W + (maxL + 11) + rm.locals ≤ R.locals) (hc : cells + rm.cells ≤ R.cells) (hs : slots + rm.slots ≤ R.slots) :
    ∃ (T' : State) (L : List Loc) (v : Option Value), Stand p l e R s m args below meth c T' (locs ++ L) (cells + rm.cells) (slots + rm.slots) ∧ Q v T'.heap L ∧ ∀ t, Steps p.tables e below (T'.setTop { g with pc := g.pc + 3, stack := v.toList ++ rest }) t → Steps p.tables e below (T.setTop g) t := by
  obtain ⟨v, vm₁, ⟨T', L', k', n'⟩, -, X', ⟨L, hQ, e1, e2, e3⟩, st⟩ := Jvm.LawKit.callS X hx (y := y) hown (mvT hZ w1) (mvT hZ w2) (mvT hZ w3) (mvT hZ w4) hy (backOf (W := W) (hM []) hZ w4 w3 hf hl) hg hsize (argsL := argsL) (rest := rest) (lenOf hpd hpl) hstack hW hdg (fun _ _ => ⟨rfl, eT, hc, hs⟩)
  dsimp only [Pt.U, Pt.locs, Pt.cells, Pt.slots] at X' e1 e2 e3 st hQ
  subst e1 e2 e3
  exact ⟨T', L, v, X', hQ, st⟩
theorem own_callV (X : Stand p l e R s m args below meth c T locs cells slots) (hx : p.tables.exec = Jvm.exec) (hZ : Z.Warmed39 s.vm) {own C : String} {index : Nat} {y z : MethodName} {bytes : ByteArray} {maxL : Nat} {ret : Option FieldType} (hown : s.vm.findClass own = some m.cls)
    (w1 : (Jvm.Cond.methodLink own index y).before a0 Z = true) (w2 : (Jvm.Cond.declares y).before a0 Z = true) (w3 : (Jvm.Cond.selects y.cls y z).before a0 Z = true) (w3' : (Jvm.Cond.selects C y z).before a0 Z = true) (w4 : (Jvm.Cond.instanceMethod z).before a0 Z = true) (w5 : (Jvm.Cond.code z bytes maxL ret).before a0 Z = true) (w6 : (Jvm.Cond.initialized z.cls).before a0 Z = true) (hnf : NotFace s y)
    (hy : y.cls ≠ "java/lang/invoke/MethodHandle" ∧ y.cls ≠ "java/lang/invoke/VarHandle")
    {rm : Room} {a : Addr} {argsL rest : List Value} {Q : Option Value → Heap → List Loc → Prop} (hM : own_M l Z z bytes maxL ret rm (.ref a :: argsL).toArray h Q) (eT : T.heap = h) (E : Exa Z h a C) {g : JFrame} (hg : g.method = m) (hsize : g.locals.size = c.maxLocals) {ps : List FieldType} {r : Option FieldType} (hpd : parseMethodDescriptor y.desc = some ⟨ps, r⟩) (hpl : argsL.length = ps.length)
    (hstack : g.stack = argsL.reverse ++ .ref a :: rest) {W : Nat} (hW : 2 * g.monitorRoom + (rest.map fun v => v.category).sum ≤ W) (hdg : decode c.code g.pc = .ok (.invokevirtual index, 3)) (hf : rm.frames + 1 ≤ R.frames) (hl : W + (maxL + 11) + rm.locals ≤ R.locals) (hc : cells + rm.cells ≤ R.cells) (hs : slots + rm.slots ≤ R.slots) :
    ∃ (T' : State) (L : List Loc) (v : Option Value), Stand p l e R s m args below meth c T' (locs ++ L) (cells + rm.cells) (slots + rm.slots) ∧ Q v T'.heap L ∧ ∀ t, Steps p.tables e below (T'.setTop { g with pc := g.pc + 3, stack := v.toList ++ rest }) t → Steps p.tables e below (T.setTop g) t := by
  obtain ⟨cq, kq, qa, qb, qc⟩ := isOf hZ eT E
  obtain ⟨v, vm₁, ⟨T', L', k', n'⟩, -, X', ⟨L, hQ, e1, e2, e3⟩, st⟩ := X.virtualBack hx (y := y) (z := z) hown (mvT hZ w1) (mvT hZ w2) hnf (mvT hZ w3') (mvT hZ w4) hy (backOf (W := W) (hM []) hZ w5 w6 hf hl) qa qc hg hsize (Steps.refl _) (argsL := argsL) (rest := rest) (lenOf hpd hpl) hstack hW hdg (fun _ _ => ⟨rfl, eT, hc, hs⟩)
  dsimp only [Pt.U, Pt.locs, Pt.cells, Pt.slots] at X' e1 e2 e3 st hQ
  subst e1 e2 e3
  exact ⟨T', L, v, X', hQ, fun t k => st.trans k⟩
theorem own_callU (X : Stand p l e R s m args below meth c T locs cells slots) (hx : p.tables.exec = Jvm.exec) (hZ : Z.Warmed39 s.vm) {own C owner : String} {index : Nat} {y z : MethodName} {bytes : ByteArray} {maxL : Nat} {ret : Option FieldType} (hown : s.vm.findClass own = some m.cls)
    (w1 : (Jvm.Cond.methodLink own index y).before a0 Z = true) (w2 : (Jvm.Cond.sameMethod y.cls owner y.name y.desc).before a0 Z = true) (w2' : (Jvm.Cond.declares ⟨owner, y.name, y.desc⟩).before a0 Z = true) (w3 : (Jvm.Cond.selects C y z).before a0 Z = true) (w4 : (Jvm.Cond.instanceMethod z).before a0 Z = true) (w5 : (Jvm.Cond.code z bytes maxL ret).before a0 Z = true) (w6 : (Jvm.Cond.initialized z.cls).before a0 Z = true)
    (hy : owner ≠ "java/lang/invoke/MethodHandle" ∧ owner ≠ "java/lang/invoke/VarHandle")
    {rm : Room} {a : Addr} {argsL rest : List Value} {Q : Option Value → Heap → List Loc → Prop} (hM : own_M l Z z bytes maxL ret rm (.ref a :: argsL).toArray h Q) (eT : T.heap = h) (E : Exa Z h a C) {g : JFrame} (hg : g.method = m) (hsize : g.locals.size = c.maxLocals) {ps : List FieldType} {r : Option FieldType} (hpd : parseMethodDescriptor y.desc = some ⟨ps, r⟩) (hpl : argsL.length = ps.length)
    (hstack : g.stack = argsL.reverse ++ .ref a :: rest) {W : Nat} (hW : 2 * g.monitorRoom + (rest.map fun v => v.category).sum ≤ W) (hdg : decode c.code g.pc = .ok (.invokevirtual index, 3)) (hf : rm.frames + 1 ≤ R.frames) (hl : W + (maxL + 11) + rm.locals ≤ R.locals) (hc : cells + rm.cells ≤ R.cells) (hs : slots + rm.slots ≤ R.slots) :
    ∃ (T' : State) (L : List Loc) (v : Option Value), Stand p l e R s m args below meth c T' (locs ++ L) (cells + rm.cells) (slots + rm.slots) ∧ Q v T'.heap L ∧ ∀ t, Steps p.tables e below (T'.setTop { g with pc := g.pc + 3, stack := v.toList ++ rest }) t → Steps p.tables e below (T.setTop g) t := by
  obtain ⟨cq, kq, qa, qb, qc⟩ := isOf hZ eT E
  obtain ⟨v, vm₁, ⟨T', L', k', n'⟩, -, X', ⟨L, hQ, e1, e2, e3⟩, st⟩ := X.virtualBackUp hx (x := y) (y := z) hown (mvT hZ w1) (mvT hZ w2) (mvT hZ w2') hy (mvT hZ w3) (mvT hZ w4) (backOf (W := W) (hM []) hZ w5 w6 hf hl) qa qc hg hsize (Steps.refl _) (argsL := argsL) (rest := rest) (lenOf hpd hpl) hstack hW hdg (fun _ _ => ⟨rfl, eT, hc, hs⟩)
  dsimp only [Pt.U, Pt.locs, Pt.cells, Pt.slots] at X' e1 e2 e3 st hQ
  subst e1 e2 e3
  exact ⟨T', L, v, X', hQ, fun t k => st.trans k⟩
theorem own_neL {i K : Int32} {k : Int} (h : ¬ i = K) (hk : K.toInt = k) : k ≠ i.toInt := fun q => h (Int32.toInt_inj.mp (by rw [hk, q]))
abbrev own_cell (cA : ClassId) (vs : Array Value) : Cell := { cls := cA, slots := vs, vm := .none }
theorem own_in {cl : Cell} {j : Int32} {n : Nat} (hs : cl.slots.size = n) (hj : ¬ (j < 0 ∨ n ≤ j.toNatClampNeg)) : ¬ (j < 0 ∨ cl.slots.size ≤ j.toNatClampNeg) := by rw [hs]; exact hj
theorem own_ext_refl (h : Heap) : Ext h h := ⟨Nat.le_refl _, fun _ _ q => q⟩
theorem own_ext_trans {h0 h h' : Heap} (E : Ext h0 h) (E' : Ext h h') : Ext h0 h' := ⟨Nat.le_trans E.1 E'.1, fun a c q => E'.2 a c (E.2 a c q)⟩
theorem own_ext_eq {h0 h h' : Heap} (E : Ext h0 h) (q : h' = h) : Ext h0 h' := q ▸ E
theorem own_acVF {v w : Value} (q : v = w) : Jvm.Free.XT.acmp .ne v w = false := by subst q; simp [Jvm.Free.XT.acmp]
theorem own_ext_wr {h0 h h' : Heap} {a : Addr} {sl : Nat} {v : Value} (E : Ext h0 h) (W : Wr h h' a sl v) (q : h0.size ≤ a) : Ext h0 h' := by
  refine ⟨by rw [W.size]; exact E.1, fun x cx hx => ?_⟩
  obtain ⟨c', e1, -, -, -, e5, -⟩ := wr_at W (E.2 x cx hx)
  rw [← e5 (Nat.ne_of_lt (Nat.lt_of_lt_of_le (Array.getElem?_eq_some_iff.mp hx).1 q))]
  exact e1
theorem own_fld {t : Term} {a : Addr} {C n d : String} {k : Int32} (ev : t.eval args Z none [] Z = some (.ref a)) (w : (Jvm.Cond.eq (.field t C n d) (.int k)).value args Z none Z [] = some true) : Fld Z Z.heap a C n d (.int k) := by
  obtain ⟨x, y, e1, e2, k1, k2⟩ := cmp_v (Or.inl w)
  obtain rfl : y = .int k := (Option.some.inj e2).symm
  obtain ⟨z, rfl⟩ := k2
  have hz := gotT (Jvm.Cond.eq_ints e1 e2) w
  rw [fld_at ev] at e1
  rw [hz] at e1
  exact Fld.start e1
theorem own_len {t : Term} {a : Addr} {cl : Cell} {ty : FieldType} {k : Int32} (ev : t.eval args Z none [] Z = some (.ref a)) (A : Arr Z Z.heap a cl ty) (w : (Jvm.Cond.eq (.length t) (.int k)).value args Z none Z [] = some true) : cl.slots.size = k.toInt.toNat := by
  obtain ⟨x, y, e1, e2, k1, k2⟩ := cmp_v (Or.inl w)
  obtain rfl : y = .int k := (Option.some.inj e2).symm
  obtain ⟨z, rfl⟩ := k2
  have hz := gotT (Jvm.Cond.eq_ints e1 e2) w
  have hA : Z.arrayAt? a = some cl := Arr.fin (Vm.Alike.refl _) A
  by_cases hl : cl.slots.size < 2 ^ 31
  · rw [len_f ev hA hl] at e1
    have h1 : cl.slots.size.toInt32 = z := Value.int.inj (Option.some.inj e1)
    rw [← hz, ← h1, len_toInt hl]
    rfl
  · simp [Term.eval, ev, hA, hl] at e1
theorem own_elemI {t : Term} {a : Addr} {cl : Cell} {ty : FieldType} {j k : Int32} (ev : t.eval args Z none [] Z = some (.ref a)) (A : Arr Z Z.heap a cl ty) (w : (Jvm.Cond.eq (.elem t (.int j)) (.int k)).value args Z none Z [] = some true) : cl.slots[j.toNatClampNeg]? = some (.int k) := by
  obtain ⟨x, y, e1, e2, k1, k2⟩ := cmp_v (Or.inl w)
  obtain rfl : y = .int k := (Option.some.inj e2).symm
  obtain ⟨z, rfl⟩ := k2
  have hz := gotT (Jvm.Cond.eq_ints e1 e2) w
  rw [← hz]
  exact (elem_in e1 ev (Term.int_eval j) A.1).2
theorem own_elemR {t u : Term} {a b : Addr} {cl : Cell} {ty : FieldType} {j : Int32} (ev : t.eval args Z none [] Z = some (.ref a)) (A : Arr Z Z.heap a cl ty) (ev' : u.eval args Z none [] Z = some (.ref b)) (w : (Jvm.Cond.eq (.elem t (.int j)) u).value args Z none Z [] = some true) : cl.slots[j.toNatClampNeg]? = some (.ref b) := by
  obtain ⟨x, y, e1, e2, k1, k2⟩ := cmp_v (Or.inl w)
  obtain rfl : y = .ref b := (Option.some.inj (ev'.symm.trans e2)).symm
  have hz := gotT (eq_R e1 e2 k2.2 rfl) w
  rw [← hz]
  exact (elem_in e1 ev (Term.int_eval j) A.1).2
theorem own_neV {a b : Int32} (h : a ≠ b) : (Value.int a) ≠ Value.int b := fun q => h (Value.int.inj q)
theorem own_acT {a b : Addr} (h : a = b) : Jvm.Free.XT.acmp .eq (.ref a) (.ref b) = true := by subst h; simp [Jvm.Free.XT.acmp]
theorem own_acF {a b : Addr} (h : a ≠ b) : Jvm.Free.XT.acmp .eq (.ref a) (.ref b) = false := by simp [Jvm.Free.XT.acmp, h]
theorem own_acnT {a b : Addr} (h : a ≠ b) : Jvm.Free.XT.acmp .ne (.ref a) (.ref b) = true := by simp [Jvm.Free.XT.acmp, h]
theorem own_acnF {a b : Addr} (h : a = b) : Jvm.Free.XT.acmp .ne (.ref a) (.ref b) = false := by subst h; simp [Jvm.Free.XT.acmp]
theorem own_mask (x : Int32) : 0 ≤ (x &&& 2147483647).toInt := by
  have := Jvm.Kit.i32_mask x 2147483647 (k := 31) (by decide) (by decide)
  omega
theorem own_rem (y n : Int32) (h0 : 0 ≤ y.toInt) (hn : 0 < n.toInt) : 0 ≤ (y % n).toInt ∧ (y % n).toInt < n.toInt := by
  rw [Int32.toInt_mod]
  exact ⟨Int.tmod_nonneg _ h0, by
    have := Int.tmod_lt_of_pos y.toInt hn
    exact this⟩
end Own
end Jvm.Pilot.@@N@@
namespace Jvm.Pilot.@@N@@
open Jvm Jvm.ClassFile Sem Op Lib Jvm.Free Jvm.Stand Jvm.LawKit Jvm.RoadKit Bundle Jvm.Pilot.@@N@@.Jvm.D
def own_B (Z : State) (h : Heap) (a_INBOX a_BINSENTBOX a_BININBOX a_SENTBOX : Addr) : Prop := Sta Z h "com/example/willebroek/willebroek/service/mailbox/MailboxFolder" "INBOX" "Lcom/example/willebroek/willebroek/service/mailbox/MailboxFolder;" (.ref a_INBOX) ∧ Exa Z h a_INBOX "com/example/willebroek/willebroek/service/mailbox/MailboxFolder" ∧ Sta Z h "com/example/willebroek/willebroek/service/mailbox/MailboxFolder" "BINSENTBOX" "Lcom/example/willebroek/willebroek/service/mailbox/MailboxFolder;" (.ref a_BINSENTBOX) ∧ Exa Z h a_BINSENTBOX "com/example/willebroek/willebroek/service/mailbox/MailboxFolder" ∧ Fld Z h a_BINSENTBOX "java/lang/Enum" "ordinal" "I" (.int (3 : Int32)) ∧ Fld Z h a_INBOX "java/lang/Enum" "ordinal" "I" (.int (0 : Int32)) ∧ Fld Z h a_BINSENTBOX "com/example/willebroek/willebroek/service/mailbox/MailboxFolder" "sent" "Z" (.int (1 : Int32)) ∧ Fld Z h a_INBOX "com/example/willebroek/willebroek/service/mailbox/MailboxFolder" "sent" "Z" (.int (0 : Int32)) ∧ Sta Z h "com/example/willebroek/willebroek/service/mailbox/MailboxFolder" "BININBOX" "Lcom/example/willebroek/willebroek/service/mailbox/MailboxFolder;" (.ref a_BININBOX) ∧ Exa Z h a_BININBOX "com/example/willebroek/willebroek/service/mailbox/MailboxFolder" ∧ Sta Z h "com/example/willebroek/willebroek/service/mailbox/MailboxFolder" "SENTBOX" "Lcom/example/willebroek/willebroek/service/mailbox/MailboxFolder;" (.ref a_SENTBOX) ∧ Exa Z h a_SENTBOX "com/example/willebroek/willebroek/service/mailbox/MailboxFolder" ∧ Fld Z h a_SENTBOX "java/lang/Enum" "ordinal" "I" (.int (1 : Int32)) ∧ Fld Z h a_BININBOX "java/lang/Enum" "ordinal" "I" (.int (2 : Int32)) ∧ Fld Z h a_SENTBOX "com/example/willebroek/willebroek/service/mailbox/MailboxFolder" "sent" "Z" (.int (1 : Int32)) ∧ Fld Z h a_BININBOX "com/example/willebroek/willebroek/service/mailbox/MailboxFolder" "sent" "Z" (.int (0 : Int32))
theorem own_B_ext {Z : State} {h h' : Heap} {a_INBOX a_BINSENTBOX a_BININBOX a_SENTBOX : Addr} (E : Ext h h') (B : own_B Z h a_INBOX a_BINSENTBOX a_BININBOX a_SENTBOX) : own_B Z h' a_INBOX a_BINSENTBOX a_BININBOX a_SENTBOX := by
  obtain ⟨S_INBOX, E_INBOX, S_BINSENTBOX, E_BINSENTBOX, F_BINSENTBOX_ordinal, F_INBOX_ordinal, F_BINSENTBOX_sent, F_INBOX_sent, S_BININBOX, E_BININBOX, S_SENTBOX, E_SENTBOX, F_SENTBOX_ordinal, F_BININBOX_ordinal, F_SENTBOX_sent, F_BININBOX_sent⟩ := B
  exact ⟨S_INBOX.ext E, E_INBOX.ext E, S_BINSENTBOX.ext E, E_BINSENTBOX.ext E, F_BINSENTBOX_ordinal.ext E, F_INBOX_ordinal.ext E, F_BINSENTBOX_sent.ext E, F_INBOX_sent.ext E, S_BININBOX.ext E, E_BININBOX.ext E, S_SENTBOX.ext E, E_SENTBOX.ext E, F_SENTBOX_ordinal.ext E, F_BININBOX_ordinal.ext E, F_SENTBOX_sent.ext E, F_BININBOX_sent.ext E⟩
theorem own_l4 (z : Int32) (h0 : 0 ≤ z.toInt) (h1 : z.toInt ≤ 3) : z = (0 : Int32) ∨ z = (1 : Int32) ∨ z = (2 : Int32) ∨ z = (3 : Int32) := by
  simp only [← Int32.toInt_inj]
  change z.toInt = 0 ∨ z.toInt = 1 ∨ z.toInt = 2 ∨ z.toInt = 3
  omega
def own_pick (a_INBOX a_BINSENTBOX a_BININBOX a_SENTBOX : Addr) (k1 : Int32) : Addr := (if k1 = (0 : Int32) then a_INBOX else (if k1 = (1 : Int32) then a_SENTBOX else (if k1 = (2 : Int32) then a_BININBOX else a_BINSENTBOX)))
theorem d1_0 : decode method_2_code 0 = .ok (.iload_n 0, 1) := by decide +kernel
theorem d1_1 : decode method_2_code 1 = .ok (.ifCond .ne 7, 3) := by decide +kernel
theorem d1_4 : decode method_2_code 4 = .ok (.getstatic 7, 3) := by decide +kernel
theorem d1_7 : decode method_2_code 7 = .ok (.areturn, 1) := by decide +kernel
theorem d1_8 : decode method_2_code 8 = .ok (.iload_n 0, 1) := by decide +kernel
theorem d1_9 : decode method_2_code 9 = .ok (.iconst 1, 1) := by decide +kernel
theorem d1_10 : decode method_2_code 10 = .ok (.if_icmp .ne 7, 3) := by decide +kernel
theorem d1_13 : decode method_2_code 13 = .ok (.getstatic 13, 3) := by decide +kernel
theorem d1_16 : decode method_2_code 16 = .ok (.areturn, 1) := by decide +kernel
theorem d1_17 : decode method_2_code 17 = .ok (.iload_n 0, 1) := by decide +kernel
theorem d1_18 : decode method_2_code 18 = .ok (.iconst 2, 1) := by decide +kernel
theorem d1_19 : decode method_2_code 19 = .ok (.if_icmp .ne 7, 3) := by decide +kernel
theorem d1_22 : decode method_2_code 22 = .ok (.getstatic 16, 3) := by decide +kernel
theorem d1_25 : decode method_2_code 25 = .ok (.areturn, 1) := by decide +kernel
theorem d1_26 : decode method_2_code 26 = .ok (.getstatic 19, 3) := by decide +kernel
theorem d1_29 : decode method_2_code 29 = .ok (.areturn, 1) := by decide +kernel
theorem pn_1 : plainName "com/example/willebroek/willebroek/service/mailbox/MailboxFolderCanMoveToPinLaw" = true := by first | (simp [plainName, overriddenIn]; done) | decide +kernel
set_option maxRecDepth 65536 in
set_option maxHeartbeats 40000000 in
theorem c_pick (l : Launch) (Z : State) (a0 : Array Value) (hw : ∀ d ∈ tables_1, d.before a0 Z = true) (a_INBOX a_BINSENTBOX a_BININBOX a_SENTBOX : Addr) (k1 : Int32) (h0 : Heap) (B : own_B Z h0 a_INBOX a_BINSENTBOX a_BININBOX a_SENTBOX) :
    own_M l Z (⟨"com/example/willebroek/willebroek/service/mailbox/MailboxFolderCanMoveToPinLaw", "pick", "(I)Lcom/example/willebroek/willebroek/service/mailbox/MailboxFolder;"⟩ : MethodName) method_2_code 1 (some (.object "com/example/willebroek/willebroek/service/mailbox/MailboxFolder")) ⟨0, 0, 0, 0⟩ #[.int k1] h0 (fun v h L => v = some (.ref (own_pick a_INBOX a_BINSENTBOX a_BININBOX a_SENTBOX k1)) ∧ L = [] ∧ h = h0) := by
  refine own_body pn_1 ?_
  intro p e s m below meth c T0 hx hby hml hlk hown hret hnm hZ X0 e0
  replace hown : s.vm.findClass "com/example/willebroek/willebroek/service/mailbox/MailboxFolderCanMoveToPinLaw" = some m.cls := hown
  replace hml : c.maxLocals = 1 := hml
  obtain ⟨S_INBOX, E_INBOX, S_BINSENTBOX, E_BINSENTBOX, F_BINSENTBOX_ordinal, F_INBOX_ordinal, F_BINSENTBOX_sent, F_INBOX_sent, S_BININBOX, E_BININBOX, S_SENTBOX, E_SENTBOX, F_SENTBOX_ordinal, F_BININBOX_ordinal, F_SENTBOX_sent, F_BININBOX_sent⟩ := id B
  have ef : entryFrame m #[.int k1] 1 = (mkF m 0 #[.val (.int k1)] []) := by first | (simp [entryFrame, mkF, argsToLocals, Value.category]; done) | rfl
  rw [ef]
  refine own_go (fun t k => XS.iloadN X0.here hx rfl (hb hby d1_0) rfl k) ?_
  show own_G p e below _ T0 (mkF m 1 #[.val (.int k1)] [(.int k1)])
  by_cases hc1 : k1 = (0 : Int32)
  ·
    refine own_go (fun t k => XS.ifNo X0.here hx rfl (hb hby d1_1) rfl (Jvm.Free.XT.i0_ne_f hc1) k) ?_
    show own_G p e below _ T0 (mkF m 4 #[.val (.int k1)] [])
    obtain ⟨T2, X2, e2, st2⟩ := getS X0 hx hZ hown (host := "") (hw _ (List.mem_of_getElem? (i := 4) rfl)) Via.refl e0 S_INBOX (g := (mkF m 4 #[.val (.int k1)] [])) rfl (hb hby d1_4)
    refine own_go st2 ?_
    show own_G p e below _ T2 (mkF m 7 #[.val (.int k1)] [(.ref a_INBOX)])
    exact own_retA X2 hx hlk hret rfl rfl (hb hby d1_7) (by decide) (by decide) ⟨congrArg some (congrArg Value.ref (Eq.symm (show (own_pick a_INBOX a_BINSENTBOX a_BININBOX a_SENTBOX k1) = a_INBOX from (by unfold own_pick; rw [if_pos hc1])))), rfl, e2⟩
  ·
    refine own_go (fun t k => XS.ifYes X0.here hx rfl (pc0 := 1) (pc' := 8) rfl (hb hby d1_1) rfl (Jvm.Free.XT.i0_ne_t hc1) (by decide) (by decide) k) ?_
    show own_G p e below _ T0 (mkF m 8 #[.val (.int k1)] [])
    refine own_go (fun t k => XS.iloadN X0.here hx rfl (hb hby d1_8) rfl k) ?_
    show own_G p e below _ T0 (mkF m 9 #[.val (.int k1)] [(.int k1)])
    refine own_go (fun t k => XS.iconst X0.here hx rfl (hb hby d1_9) k) ?_
    show own_G p e below _ T0 (mkF m 10 #[.val (.int k1)] [(.int (1 : Int32)), (.int k1)])
    by_cases hc3 : k1 = (1 : Int32)
    ·
      refine own_go (fun t k => XS.icmpNo X0.here hx rfl (hb hby d1_10) rfl (Jvm.Free.XT.ii_ne_f hc3) k) ?_
      show own_G p e below _ T0 (mkF m 13 #[.val (.int k1)] [])
      obtain ⟨T4, X4, e4, st4⟩ := getS X0 hx hZ hown (host := "") (hw _ (List.mem_of_getElem? (i := 18) rfl)) Via.refl e0 S_SENTBOX (g := (mkF m 13 #[.val (.int k1)] [])) rfl (hb hby d1_13)
      refine own_go st4 ?_
      show own_G p e below _ T4 (mkF m 16 #[.val (.int k1)] [(.ref a_SENTBOX)])
      exact own_retA X4 hx hlk hret rfl rfl (hb hby d1_16) (by decide) (by decide) ⟨congrArg some (congrArg Value.ref (Eq.symm (show (own_pick a_INBOX a_BINSENTBOX a_BININBOX a_SENTBOX k1) = a_SENTBOX from (by unfold own_pick; rw [if_neg hc1, if_pos hc3])))), rfl, e4⟩
    ·
      refine own_go (fun t k => XS.icmpYes X0.here hx rfl (pc0 := 10) (pc' := 17) rfl (hb hby d1_10) rfl (Jvm.Free.XT.ii_ne_t hc3) (by decide) (by decide) k) ?_
      show own_G p e below _ T0 (mkF m 17 #[.val (.int k1)] [])
      refine own_go (fun t k => XS.iloadN X0.here hx rfl (hb hby d1_17) rfl k) ?_
      show own_G p e below _ T0 (mkF m 18 #[.val (.int k1)] [(.int k1)])
      refine own_go (fun t k => XS.iconst X0.here hx rfl (hb hby d1_18) k) ?_
      show own_G p e below _ T0 (mkF m 19 #[.val (.int k1)] [(.int (2 : Int32)), (.int k1)])
      by_cases hc5 : k1 = (2 : Int32)
      ·
        refine own_go (fun t k => XS.icmpNo X0.here hx rfl (hb hby d1_19) rfl (Jvm.Free.XT.ii_ne_f hc5) k) ?_
        show own_G p e below _ T0 (mkF m 22 #[.val (.int k1)] [])
        obtain ⟨T6, X6, e6, st6⟩ := getS X0 hx hZ hown (host := "") (hw _ (List.mem_of_getElem? (i := 16) rfl)) Via.refl e0 S_BININBOX (g := (mkF m 22 #[.val (.int k1)] [])) rfl (hb hby d1_22)
        refine own_go st6 ?_
        show own_G p e below _ T6 (mkF m 25 #[.val (.int k1)] [(.ref a_BININBOX)])
        exact own_retA X6 hx hlk hret rfl rfl (hb hby d1_25) (by decide) (by decide) ⟨congrArg some (congrArg Value.ref (Eq.symm (show (own_pick a_INBOX a_BINSENTBOX a_BININBOX a_SENTBOX k1) = a_BININBOX from (by unfold own_pick; rw [if_neg hc1, if_neg hc3, if_pos hc5])))), rfl, e6⟩
      ·
        refine own_go (fun t k => XS.icmpYes X0.here hx rfl (pc0 := 19) (pc' := 26) rfl (hb hby d1_19) rfl (Jvm.Free.XT.ii_ne_t hc5) (by decide) (by decide) k) ?_
        show own_G p e below _ T0 (mkF m 26 #[.val (.int k1)] [])
        obtain ⟨T7, X7, e7, st7⟩ := getS X0 hx hZ hown (host := "") (hw _ (List.mem_of_getElem? (i := 7) rfl)) Via.refl e0 S_BINSENTBOX (g := (mkF m 26 #[.val (.int k1)] [])) rfl (hb hby d1_26)
        refine own_go st7 ?_
        show own_G p e below _ T7 (mkF m 29 #[.val (.int k1)] [(.ref a_BINSENTBOX)])
        exact own_retA X7 hx hlk hret rfl rfl (hb hby d1_29) (by decide) (by decide) ⟨congrArg some (congrArg Value.ref (Eq.symm (show (own_pick a_INBOX a_BINSENTBOX a_BININBOX a_SENTBOX k1) = a_BINSENTBOX from (by unfold own_pick; rw [if_neg hc1, if_neg hc3, if_neg hc5])))), rfl, e7⟩
def own_can  (a1 : Addr) (b1 : Addr) (wa : Int32) (wb : Int32) : Int32 := (if b1 = a1 then (nar .boolean (0 : Int32)) else (if wb = wa then (nar .boolean (1 : Int32)) else (nar .boolean (0 : Int32))))
theorem d2_0 : decode prog_73_method_6_code 0 = .ok (.aload_n 1, 1) := by decide +kernel
theorem d2_1 : decode prog_73_method_6_code 1 = .ok (.aload_n 0, 1) := by decide +kernel
theorem d2_2 : decode prog_73_method_6_code 2 = .ok (.if_acmp .eq 18, 3) := by decide +kernel
theorem d2_5 : decode prog_73_method_6_code 5 = .ok (.aload_n 1, 1) := by decide +kernel
theorem d2_6 : decode prog_73_method_6_code 6 = .ok (.getfield 35, 3) := by decide +kernel
theorem d2_9 : decode prog_73_method_6_code 9 = .ok (.aload_n 0, 1) := by decide +kernel
theorem d2_10 : decode prog_73_method_6_code 10 = .ok (.getfield 35, 3) := by decide +kernel
theorem d2_13 : decode prog_73_method_6_code 13 = .ok (.if_icmp .ne 7, 3) := by decide +kernel
theorem d2_16 : decode prog_73_method_6_code 16 = .ok (.iconst 1, 1) := by decide +kernel
theorem d2_17 : decode prog_73_method_6_code 17 = .ok (.goto 4, 3) := by decide +kernel
theorem d2_20 : decode prog_73_method_6_code 20 = .ok (.iconst 0, 1) := by decide +kernel
theorem d2_21 : decode prog_73_method_6_code 21 = .ok (.ireturn, 1) := by decide +kernel
theorem pn_2 : plainName "com/example/willebroek/willebroek/service/mailbox/MailboxFolder" = true := by first | (simp [plainName, overriddenIn]; done) | decide +kernel
set_option maxRecDepth 65536 in
set_option maxHeartbeats 40000000 in
theorem c_can (l : Launch) (Z : State) (a0 : Array Value) (hw : ∀ d ∈ tables_1, d.before a0 Z = true)  (a1 : Addr) (b1 : Addr) (wa : Int32) (wb : Int32) (h0 : Heap)  (F_a1_sent : Fld Z h0 a1 "com/example/willebroek/willebroek/service/mailbox/MailboxFolder" "sent" "Z" (.int wa)) (F_b1_sent : Fld Z h0 b1 "com/example/willebroek/willebroek/service/mailbox/MailboxFolder" "sent" "Z" (.int wb)) :
    own_M l Z (⟨"com/example/willebroek/willebroek/service/mailbox/MailboxFolder", "canMoveTo", "(Lcom/example/willebroek/willebroek/service/mailbox/MailboxFolder;)Z"⟩ : MethodName) prog_73_method_6_code 2 (some .boolean) ⟨0, 0, 0, 0⟩ #[.ref a1, .ref b1] h0 (fun v h L => v = some (.int (own_can a1 b1 wa wb)) ∧ L = [] ∧ h = h0) := by
  refine own_body pn_2 ?_
  intro p e s m below meth c T0 hx hby hml hlk hown hret hnm hZ X0 e0
  replace hown : s.vm.findClass "com/example/willebroek/willebroek/service/mailbox/MailboxFolder" = some m.cls := hown
  replace hml : c.maxLocals = 2 := hml
  have ef : entryFrame m #[.ref a1, .ref b1] 2 = (mkF m 0 #[.val (.ref a1), .val (.ref b1)] []) := by first | (simp [entryFrame, mkF, argsToLocals, Value.category]; done) | rfl
  rw [ef]
  refine own_go (fun t k => XS.aloadN X0.here hx rfl (hb hby d2_0) rfl rfl k) ?_
  show own_G p e below _ T0 (mkF m 1 #[.val (.ref a1), .val (.ref b1)] [(.ref b1)])
  refine own_go (fun t k => XS.aloadN X0.here hx rfl (hb hby d2_1) rfl rfl k) ?_
  show own_G p e below _ T0 (mkF m 2 #[.val (.ref a1), .val (.ref b1)] [(.ref a1), (.ref b1)])
  by_cases hc1 : b1 = a1
  ·
    refine own_go (fun t k => Jvm.Free.XT.acmpYes X0.here hx rfl (pc0 := 2) (pc' := 20) rfl (hb hby d2_2) rfl rfl rfl (own_acT hc1) (by decide) (by decide) k) ?_
    show own_G p e below _ T0 (mkF m 20 #[.val (.ref a1), .val (.ref b1)] [])
    refine own_go (fun t k => XS.iconst X0.here hx rfl (hb hby d2_20) k) ?_
    show own_G p e below _ T0 (mkF m 21 #[.val (.ref a1), .val (.ref b1)] [(.int (0 : Int32))])
    exact own_retN X0 hx hlk hret (by simp) (hb hby d2_21) (by decide) (by decide) ⟨congrArg some (congrArg Value.int (Eq.symm (show (own_can a1 b1 wa wb) = (nar .boolean (0 : Int32)) from (by unfold own_can; rw [if_pos hc1])))), rfl, e0⟩
  ·
    refine own_go (fun t k => Jvm.Free.XT.acmpNo X0.here hx rfl (hb hby d2_2) rfl rfl rfl (own_acF hc1) k) ?_
    show own_G p e below _ T0 (mkF m 5 #[.val (.ref a1), .val (.ref b1)] [])
    refine own_go (fun t k => XS.aloadN X0.here hx rfl (hb hby d2_5) rfl rfl k) ?_
    show own_G p e below _ T0 (mkF m 6 #[.val (.ref a1), .val (.ref b1)] [(.ref b1)])
    obtain ⟨T2, X2, e2, st2⟩ := getF X0 hx hZ hown (host := "") (Or.inl (hw _ (List.mem_of_getElem? (i := 14) rfl))) Via.refl e0 F_b1_sent (g := (mkF m 6 #[.val (.ref a1), .val (.ref b1)] [(.ref b1)])) rfl rfl (hb hby d2_6)
    refine own_go st2 ?_
    show own_G p e below _ T2 (mkF m 9 #[.val (.ref a1), .val (.ref b1)] [(.int wb)])
    refine own_go (fun t k => XS.aloadN X2.here hx rfl (hb hby d2_9) rfl rfl k) ?_
    show own_G p e below _ T2 (mkF m 10 #[.val (.ref a1), .val (.ref b1)] [(.ref a1), (.int wb)])
    obtain ⟨T3, X3, e3, st3⟩ := getF X2 hx hZ hown (host := "") (Or.inl (hw _ (List.mem_of_getElem? (i := 14) rfl))) Via.refl e2 F_a1_sent (g := (mkF m 10 #[.val (.ref a1), .val (.ref b1)] [(.ref a1), (.int wb)])) rfl rfl (hb hby d2_10)
    refine own_go st3 ?_
    show own_G p e below _ T3 (mkF m 13 #[.val (.ref a1), .val (.ref b1)] [(.int wa), (.int wb)])
    by_cases hc4 : wb = wa
    ·
      refine own_go (fun t k => XS.icmpNo X3.here hx rfl (hb hby d2_13) rfl (Jvm.Free.XT.ii_ne_f hc4) k) ?_
      show own_G p e below _ T3 (mkF m 16 #[.val (.ref a1), .val (.ref b1)] [])
      refine own_go (fun t k => XS.iconst X3.here hx rfl (hb hby d2_16) k) ?_
      show own_G p e below _ T3 (mkF m 17 #[.val (.ref a1), .val (.ref b1)] [(.int (1 : Int32))])
      refine own_go (fun t k => XS.goto X3.here hx rfl (pc0 := 17) (pc' := 21) rfl (hb hby d2_17) (by decide) (by decide) k) ?_
      show own_G p e below _ T3 (mkF m 21 #[.val (.ref a1), .val (.ref b1)] [(.int (1 : Int32))])
      exact own_retN X3 hx hlk hret (by simp) (hb hby d2_21) (by decide) (by decide) ⟨congrArg some (congrArg Value.int (Eq.symm (show (own_can a1 b1 wa wb) = (nar .boolean (1 : Int32)) from (by unfold own_can; rw [if_neg hc1, if_pos hc4])))), rfl, e3⟩
    ·
      refine own_go (fun t k => XS.icmpYes X3.here hx rfl (pc0 := 13) (pc' := 20) rfl (hb hby d2_13) rfl (Jvm.Free.XT.ii_ne_t hc4) (by decide) (by decide) k) ?_
      show own_G p e below _ T3 (mkF m 20 #[.val (.ref a1), .val (.ref b1)] [])
      refine own_go (fun t k => XS.iconst X3.here hx rfl (hb hby d2_20) k) ?_
      show own_G p e below _ T3 (mkF m 21 #[.val (.ref a1), .val (.ref b1)] [(.int (0 : Int32))])
      exact own_retN X3 hx hlk hret (by simp) (hb hby d2_21) (by decide) (by decide) ⟨congrArg some (congrArg Value.int (Eq.symm (show (own_can a1 b1 wa wb) = (nar .boolean (0 : Int32)) from (by unfold own_can; rw [if_neg hc1, if_neg hc4])))), rfl, e3⟩
theorem own_m3 (x : Int32) : 0 ≤ (x &&& 3).toInt ∧ (x &&& 3).toInt ≤ 3 := by
  have := Jvm.Kit.i32_mask x 3 (k := 2) (by decide) (by decide)
  omega
theorem pn_0 : plainName "com/example/willebroek/willebroek/service/mailbox/MailboxFolderCanMoveToPinLaw" = true := by first | (simp [plainName, overriddenIn]; done) | decide +kernel
set_option maxRecDepth 65536 in
set_option maxHeartbeats 40000000 in
theorem rm0 (l : Launch) (Z : State) (a0 : Array Value) (hw : ∀ d ∈ tables_1, d.before a0 Z = true) (i0 i1 : Int32) (a_INBOX a_BINSENTBOX a_BININBOX a_SENTBOX : Addr) (h0 : Heap) (n0 : Nat) (Z0 : n0 ≤ h0.size) (B : own_B Z h0 a_INBOX a_BINSENTBOX a_BININBOX a_SENTBOX) :
    own_M l Z x code maxLocals ret room_1 #[.int i0, .int i1] h0 (fun v h L => v = some (.int 1) ∧ Fr n0 L) := by
  refine own_body pn_0 ?_
  intro p e s m below meth c T0 hx hby hml hlk hown hret hnm hZ X0 e0
  replace hown : s.vm.findClass "com/example/willebroek/willebroek/service/mailbox/MailboxFolderCanMoveToPinLaw" = some m.cls := hown
  replace hml : c.maxLocals = 7 := hml
  replace hret : meth.sig.returnType = some .boolean := hret
  obtain ⟨S_INBOX, E_INBOX, S_BINSENTBOX, E_BINSENTBOX, F_BINSENTBOX_ordinal, F_INBOX_ordinal, F_BINSENTBOX_sent, F_INBOX_sent, S_BININBOX, E_BININBOX, S_SENTBOX, E_SENTBOX, F_SENTBOX_ordinal, F_BININBOX_ordinal, F_SENTBOX_sent, F_BININBOX_sent⟩ := id B
  have hk := own_l4 _ (own_m3 i0).1 (own_m3 i0).2
  have hf := own_l4 _ (own_m3 i1).1 (own_m3 i1).2
  have N0 := Fr.nil n0
  have ef : entryFrame m #[.int i0, .int i1] maxLocals = (mkF m 0 #[.val (.int i0), .val (.int i1), .unset, .unset, .unset, .unset, .unset] []) := by first | (simp [entryFrame, mkF, argsToLocals, Value.category, maxLocals]; done) | rfl
  rw [ef]
  refine own_go (fun t k => XS.iloadN X0.here hx rfl (hb hby at_0) rfl k) ?_
  show own_G p e below _ T0 (mkF m 1 #[.val (.int i0), .val (.int i1), .unset, .unset, .unset, .unset, .unset] [(.int i0)])
  refine own_go (fun t k => XS.iconst X0.here hx rfl (hb hby at_1) k) ?_
  show own_G p e below _ T0 (mkF m 2 #[.val (.int i0), .val (.int i1), .unset, .unset, .unset, .unset, .unset] [(.int (3 : Int32)), (.int i0)])
  refine own_go (fun t k => XS.iand X0.here hx rfl (hb hby at_2) rfl k) ?_
  show own_G p e below _ T0 (mkF m 3 #[.val (.int i0), .val (.int i1), .unset, .unset, .unset, .unset, .unset] [(.int (i0 &&& (3 : Int32)))])
  rcases hk with hk1 | hk1 | hk1 | hk1
  · rw [hk1]
    show own_G p e below _ T0 (mkF m 3 #[.val (.int i0), .val (.int i1), .unset, .unset, .unset, .unset, .unset] [(.int (0 : Int32))])
    refine own_go (fun t k => XS.istoreN X0.here hx rfl (hb hby at_3) rfl (l' := #[.val (.int i0), .val (.int i1), .val (.int (0 : Int32)), .unset, .unset, .unset, .unset]) rfl k) ?_
    show own_G p e below _ T0 (mkF m 4 #[.val (.int i0), .val (.int i1), .val (.int (0 : Int32)), .unset, .unset, .unset, .unset] [])
    refine own_go (fun t k => XS.iloadN X0.here hx rfl (hb hby at_4) rfl k) ?_
    show own_G p e below _ T0 (mkF m 5 #[.val (.int i0), .val (.int i1), .val (.int (0 : Int32)), .unset, .unset, .unset, .unset] [(.int i1)])
    refine own_go (fun t k => XS.iconst X0.here hx rfl (hb hby at_5) k) ?_
    show own_G p e below _ T0 (mkF m 6 #[.val (.int i0), .val (.int i1), .val (.int (0 : Int32)), .unset, .unset, .unset, .unset] [(.int (3 : Int32)), (.int i1)])
    refine own_go (fun t k => XS.iand X0.here hx rfl (hb hby at_6) rfl k) ?_
    show own_G p e below _ T0 (mkF m 7 #[.val (.int i0), .val (.int i1), .val (.int (0 : Int32)), .unset, .unset, .unset, .unset] [(.int (i1 &&& (3 : Int32)))])
    rcases hf with hk2 | hk2 | hk2 | hk2
    · rw [hk2]
      show own_G p e below _ T0 (mkF m 7 #[.val (.int i0), .val (.int i1), .val (.int (0 : Int32)), .unset, .unset, .unset, .unset] [(.int (0 : Int32))])
      refine own_go (fun t k => XS.istoreN X0.here hx rfl (hb hby at_7) rfl (l' := #[.val (.int i0), .val (.int i1), .val (.int (0 : Int32)), .val (.int (0 : Int32)), .unset, .unset, .unset]) rfl k) ?_
      show own_G p e below _ T0 (mkF m 8 #[.val (.int i0), .val (.int i1), .val (.int (0 : Int32)), .val (.int (0 : Int32)), .unset, .unset, .unset] [])
      refine own_go (fun t k => XS.iloadN X0.here hx rfl (hb hby at_8) rfl k) ?_
      show own_G p e below _ T0 (mkF m 9 #[.val (.int i0), .val (.int i1), .val (.int (0 : Int32)), .val (.int (0 : Int32)), .unset, .unset, .unset] [(.int (0 : Int32))])
      obtain ⟨T3, L3, v3, X3, ⟨rfl, rfl, q3⟩, st3⟩ := own_callS X0 hx hZ (y := (⟨"com/example/willebroek/willebroek/service/mailbox/MailboxFolderCanMoveToPinLaw", "pick", "(I)Lcom/example/willebroek/willebroek/service/mailbox/MailboxFolder;"⟩ : MethodName)) hown (hw _ (List.mem_of_getElem? (i := 0) rfl)) (hw _ (List.mem_of_getElem? (i := 1) rfl)) (hw _ (List.mem_of_getElem? (i := 2) rfl)) (hw _ (List.mem_of_getElem? (i := 3) rfl)) (by decide) (c_pick l Z a0 hw a_INBOX a_BINSENTBOX a_BININBOX a_SENTBOX (0 : Int32) h0 B ) e0 (argsL := [(.int (0 : Int32))]) (rest := []) (g := (mkF m 9 #[.val (.int i0), .val (.int i1), .val (.int (0 : Int32)), .val (.int (0 : Int32)), .unset, .unset, .unset] [(.int (0 : Int32))])) rfl (by rw [hml]; rfl) (ps := [.int]) (r := (some (.object "com/example/willebroek/willebroek/service/mailbox/MailboxFolder"))) (by decide +kernel) rfl rfl (W := 0) (by show 2 * 0 + _ ≤ _; exact Nat.le_of_eq rfl) (hb hby at_9) (by decide) (by decide) (by decide) (by decide)
      have N3 := Fr.app N0 (Fr.nil n0)
      refine own_go st3 ?_
      show own_G p e below _ T3 (mkF m 12 #[.val (.int i0), .val (.int i1), .val (.int (0 : Int32)), .val (.int (0 : Int32)), .unset, .unset, .unset] [(.ref (own_pick a_INBOX a_BINSENTBOX a_BININBOX a_SENTBOX (0 : Int32)))])
      have r3 : (own_pick a_INBOX a_BINSENTBOX a_BININBOX a_SENTBOX (0 : Int32)) = a_INBOX := by unfold own_pick; rw [if_pos (show ((0 : Int32) = (0 : Int32)) by decide)]
      rw [r3]
      show own_G p e below _ T3 (mkF m 12 #[.val (.int i0), .val (.int i1), .val (.int (0 : Int32)), .val (.int (0 : Int32)), .unset, .unset, .unset] [(.ref a_INBOX)])
      refine own_go (fun t k => XS.astore X3.here hx rfl (hb hby at_12) rfl rfl (l' := #[.val (.int i0), .val (.int i1), .val (.int (0 : Int32)), .val (.int (0 : Int32)), .val (.ref a_INBOX), .unset, .unset]) rfl k) ?_
      show own_G p e below _ T3 (mkF m 14 #[.val (.int i0), .val (.int i1), .val (.int (0 : Int32)), .val (.int (0 : Int32)), .val (.ref a_INBOX), .unset, .unset] [])
      refine own_go (fun t k => XS.iloadN X3.here hx rfl (hb hby at_14) rfl k) ?_
      show own_G p e below _ T3 (mkF m 15 #[.val (.int i0), .val (.int i1), .val (.int (0 : Int32)), .val (.int (0 : Int32)), .val (.ref a_INBOX), .unset, .unset] [(.int (0 : Int32))])
      obtain ⟨T4, L4, v4, X4, ⟨rfl, rfl, q4⟩, st4⟩ := own_callS X3 hx hZ (y := (⟨"com/example/willebroek/willebroek/service/mailbox/MailboxFolderCanMoveToPinLaw", "pick", "(I)Lcom/example/willebroek/willebroek/service/mailbox/MailboxFolder;"⟩ : MethodName)) hown (hw _ (List.mem_of_getElem? (i := 0) rfl)) (hw _ (List.mem_of_getElem? (i := 1) rfl)) (hw _ (List.mem_of_getElem? (i := 2) rfl)) (hw _ (List.mem_of_getElem? (i := 3) rfl)) (by decide) (c_pick l Z a0 hw a_INBOX a_BINSENTBOX a_BININBOX a_SENTBOX (0 : Int32) h0 B ) q3 (argsL := [(.int (0 : Int32))]) (rest := []) (g := (mkF m 15 #[.val (.int i0), .val (.int i1), .val (.int (0 : Int32)), .val (.int (0 : Int32)), .val (.ref a_INBOX), .unset, .unset] [(.int (0 : Int32))])) rfl (by rw [hml]; rfl) (ps := [.int]) (r := (some (.object "com/example/willebroek/willebroek/service/mailbox/MailboxFolder"))) (by decide +kernel) rfl rfl (W := 0) (by show 2 * 0 + _ ≤ _; exact Nat.le_of_eq rfl) (hb hby at_15) (by decide) (by decide) (by decide) (by decide)
      have N4 := Fr.app N3 (Fr.nil n0)
      refine own_go st4 ?_
      show own_G p e below _ T4 (mkF m 18 #[.val (.int i0), .val (.int i1), .val (.int (0 : Int32)), .val (.int (0 : Int32)), .val (.ref a_INBOX), .unset, .unset] [(.ref (own_pick a_INBOX a_BINSENTBOX a_BININBOX a_SENTBOX (0 : Int32)))])
      have r4 : (own_pick a_INBOX a_BINSENTBOX a_BININBOX a_SENTBOX (0 : Int32)) = a_INBOX := by unfold own_pick; rw [if_pos (show ((0 : Int32) = (0 : Int32)) by decide)]
      rw [r4]
      show own_G p e below _ T4 (mkF m 18 #[.val (.int i0), .val (.int i1), .val (.int (0 : Int32)), .val (.int (0 : Int32)), .val (.ref a_INBOX), .unset, .unset] [(.ref a_INBOX)])
      refine own_go (fun t k => XS.astore X4.here hx rfl (hb hby at_18) rfl rfl (l' := #[.val (.int i0), .val (.int i1), .val (.int (0 : Int32)), .val (.int (0 : Int32)), .val (.ref a_INBOX), .val (.ref a_INBOX), .unset]) rfl k) ?_
      show own_G p e below _ T4 (mkF m 20 #[.val (.int i0), .val (.int i1), .val (.int (0 : Int32)), .val (.int (0 : Int32)), .val (.ref a_INBOX), .val (.ref a_INBOX), .unset] [])
      refine own_go (fun t k => XS.iloadN X4.here hx rfl (hb hby at_20) rfl k) ?_
      show own_G p e below _ T4 (mkF m 21 #[.val (.int i0), .val (.int i1), .val (.int (0 : Int32)), .val (.int (0 : Int32)), .val (.ref a_INBOX), .val (.ref a_INBOX), .unset] [(.int (0 : Int32))])
      refine own_go (fun t k => XS.ifNo X4.here hx rfl (hb hby at_21) rfl (by decide) k) ?_
      show own_G p e below _ T4 (mkF m 24 #[.val (.int i0), .val (.int i1), .val (.int (0 : Int32)), .val (.int (0 : Int32)), .val (.ref a_INBOX), .val (.ref a_INBOX), .unset] [])
      refine own_go (fun t k => XS.iloadN X4.here hx rfl (hb hby at_24) rfl k) ?_
      show own_G p e below _ T4 (mkF m 25 #[.val (.int i0), .val (.int i1), .val (.int (0 : Int32)), .val (.int (0 : Int32)), .val (.ref a_INBOX), .val (.ref a_INBOX), .unset] [(.int (0 : Int32))])
      refine own_go (fun t k => XS.iconst X4.here hx rfl (hb hby at_25) k) ?_
      show own_G p e below _ T4 (mkF m 26 #[.val (.int i0), .val (.int i1), .val (.int (0 : Int32)), .val (.int (0 : Int32)), .val (.ref a_INBOX), .val (.ref a_INBOX), .unset] [(.int (2 : Int32)), (.int (0 : Int32))])
      refine own_go (fun t k => XS.icmpNo X4.here hx rfl (hb hby at_26) rfl (by decide) k) ?_
      show own_G p e below _ T4 (mkF m 29 #[.val (.int i0), .val (.int i1), .val (.int (0 : Int32)), .val (.int (0 : Int32)), .val (.ref a_INBOX), .val (.ref a_INBOX), .unset] [])
      refine own_go (fun t k => XS.iloadN X4.here hx rfl (hb hby at_29) rfl k) ?_
      show own_G p e below _ T4 (mkF m 30 #[.val (.int i0), .val (.int i1), .val (.int (0 : Int32)), .val (.int (0 : Int32)), .val (.ref a_INBOX), .val (.ref a_INBOX), .unset] [(.int (0 : Int32))])
      refine own_go (fun t k => XS.iconst X4.here hx rfl (hb hby at_30) k) ?_
      show own_G p e below _ T4 (mkF m 31 #[.val (.int i0), .val (.int i1), .val (.int (0 : Int32)), .val (.int (0 : Int32)), .val (.ref a_INBOX), .val (.ref a_INBOX), .unset] [(.int (2 : Int32)), (.int (0 : Int32))])
      refine own_go (fun t k => XS.icmpYes X4.here hx rfl (pc0 := 31) (pc' := 38) rfl (hb hby at_31) rfl (by decide) (by decide) (by decide) k) ?_
      show own_G p e below _ T4 (mkF m 38 #[.val (.int i0), .val (.int i1), .val (.int (0 : Int32)), .val (.int (0 : Int32)), .val (.ref a_INBOX), .val (.ref a_INBOX), .unset] [])
      refine own_go (fun t k => XS.iloadN X4.here hx rfl (hb hby at_38) rfl k) ?_
      show own_G p e below _ T4 (mkF m 39 #[.val (.int i0), .val (.int i1), .val (.int (0 : Int32)), .val (.int (0 : Int32)), .val (.ref a_INBOX), .val (.ref a_INBOX), .unset] [(.int (0 : Int32))])
      refine own_go (fun t k => XS.iconst X4.here hx rfl (hb hby at_39) k) ?_
      show own_G p e below _ T4 (mkF m 40 #[.val (.int i0), .val (.int i1), .val (.int (0 : Int32)), .val (.int (0 : Int32)), .val (.ref a_INBOX), .val (.ref a_INBOX), .unset] [(.int (1 : Int32)), (.int (0 : Int32))])
      refine own_go (fun t k => XS.icmpYes X4.here hx rfl (pc0 := 40) (pc' := 48) rfl (hb hby at_40) rfl (by decide) (by decide) (by decide) k) ?_
      show own_G p e below _ T4 (mkF m 48 #[.val (.int i0), .val (.int i1), .val (.int (0 : Int32)), .val (.int (0 : Int32)), .val (.ref a_INBOX), .val (.ref a_INBOX), .unset] [])
      refine own_go (fun t k => XS.iloadN X4.here hx rfl (hb hby at_48) rfl k) ?_
      show own_G p e below _ T4 (mkF m 49 #[.val (.int i0), .val (.int i1), .val (.int (0 : Int32)), .val (.int (0 : Int32)), .val (.ref a_INBOX), .val (.ref a_INBOX), .unset] [(.int (0 : Int32))])
      refine own_go (fun t k => XS.iconst X4.here hx rfl (hb hby at_49) k) ?_
      show own_G p e below _ T4 (mkF m 50 #[.val (.int i0), .val (.int i1), .val (.int (0 : Int32)), .val (.int (0 : Int32)), .val (.ref a_INBOX), .val (.ref a_INBOX), .unset] [(.int (3 : Int32)), (.int (0 : Int32))])
      refine own_go (fun t k => XS.icmpYes X4.here hx rfl (pc0 := 50) (pc' := 62) rfl (hb hby at_50) rfl (by decide) (by decide) (by decide) k) ?_
      show own_G p e below _ T4 (mkF m 62 #[.val (.int i0), .val (.int i1), .val (.int (0 : Int32)), .val (.int (0 : Int32)), .val (.ref a_INBOX), .val (.ref a_INBOX), .unset] [])
      refine own_go (fun t k => XS.iconst X4.here hx rfl (hb hby at_62) k) ?_
      show own_G p e below _ T4 (mkF m 63 #[.val (.int i0), .val (.int i1), .val (.int (0 : Int32)), .val (.int (0 : Int32)), .val (.ref a_INBOX), .val (.ref a_INBOX), .unset] [(.int (0 : Int32))])
      refine own_go (fun t k => XS.istore X4.here hx rfl (hb hby at_63) rfl (l' := #[.val (.int i0), .val (.int i1), .val (.int (0 : Int32)), .val (.int (0 : Int32)), .val (.ref a_INBOX), .val (.ref a_INBOX), .val (.int (0 : Int32))]) rfl k) ?_
      show own_G p e below _ T4 (mkF m 65 #[.val (.int i0), .val (.int i1), .val (.int (0 : Int32)), .val (.int (0 : Int32)), .val (.ref a_INBOX), .val (.ref a_INBOX), .val (.int (0 : Int32))] [])
      refine own_go (fun t k => XS.aload X4.here hx rfl (hb hby at_65) rfl rfl k) ?_
      show own_G p e below _ T4 (mkF m 67 #[.val (.int i0), .val (.int i1), .val (.int (0 : Int32)), .val (.int (0 : Int32)), .val (.ref a_INBOX), .val (.ref a_INBOX), .val (.int (0 : Int32))] [(.ref a_INBOX)])
      refine own_go (fun t k => XS.aload X4.here hx rfl (hb hby at_67) rfl rfl k) ?_
      show own_G p e below _ T4 (mkF m 69 #[.val (.int i0), .val (.int i1), .val (.int (0 : Int32)), .val (.int (0 : Int32)), .val (.ref a_INBOX), .val (.ref a_INBOX), .val (.int (0 : Int32))] [(.ref a_INBOX), (.ref a_INBOX)])
      obtain ⟨T5, L5, v5, X5, ⟨rfl, rfl, q5⟩, st5⟩ := own_callV X4 hx hZ (y := (⟨"com/example/willebroek/willebroek/service/mailbox/MailboxFolder", "canMoveTo", "(Lcom/example/willebroek/willebroek/service/mailbox/MailboxFolder;)Z"⟩ : MethodName)) (z := (⟨"com/example/willebroek/willebroek/service/mailbox/MailboxFolder", "canMoveTo", "(Lcom/example/willebroek/willebroek/service/mailbox/MailboxFolder;)Z"⟩ : MethodName)) hown (hw _ (List.mem_of_getElem? (i := 9) rfl)) (hw _ (List.mem_of_getElem? (i := 10) rfl)) (hw _ (List.mem_of_getElem? (i := 12) rfl)) (hw _ (List.mem_of_getElem? (i := 12) rfl)) (hw _ (List.mem_of_getElem? (i := 11) rfl)) (hw _ (List.mem_of_getElem? (i := 13) rfl)) (hw _ (List.mem_of_getElem? (i := 5) rfl)) (notFace_of_selects (args := #[]) (mvT hZ (hw _ (List.mem_of_getElem? (i := 12) rfl)))) (by decide) (c_can l Z a0 hw a_INBOX a_INBOX (0 : Int32) (0 : Int32) h0  F_INBOX_sent F_INBOX_sent) q4 E_INBOX (argsL := [(.ref a_INBOX)]) (rest := []) (g := (mkF m 69 #[.val (.int i0), .val (.int i1), .val (.int (0 : Int32)), .val (.int (0 : Int32)), .val (.ref a_INBOX), .val (.ref a_INBOX), .val (.int (0 : Int32))] [(.ref a_INBOX), (.ref a_INBOX)])) rfl (by rw [hml]; rfl) (ps := [(.object "com/example/willebroek/willebroek/service/mailbox/MailboxFolder")]) (r := (some .boolean)) (by decide +kernel) rfl rfl (W := 0) (by show 2 * 0 + _ ≤ _; exact Nat.le_of_eq rfl) (hb hby at_69) (by decide) (by decide) (by decide) (by decide)
      have N5 := Fr.app N4 (Fr.nil n0)
      refine own_go st5 ?_
      show own_G p e below _ T5 (mkF m 72 #[.val (.int i0), .val (.int i1), .val (.int (0 : Int32)), .val (.int (0 : Int32)), .val (.ref a_INBOX), .val (.ref a_INBOX), .val (.int (0 : Int32))] [(.int (own_can a_INBOX a_INBOX (0 : Int32) (0 : Int32)))])
      have r5 : (own_can a_INBOX a_INBOX (0 : Int32) (0 : Int32)) = (0 : Int32) := by unfold own_can; rw [if_pos (rfl : a_INBOX = a_INBOX)]; rfl
      rw [r5]
      show own_G p e below _ T5 (mkF m 72 #[.val (.int i0), .val (.int i1), .val (.int (0 : Int32)), .val (.int (0 : Int32)), .val (.ref a_INBOX), .val (.ref a_INBOX), .val (.int (0 : Int32))] [(.int (0 : Int32))])
      refine own_go (fun t k => XS.iload X5.here hx rfl (hb hby at_72) rfl k) ?_
      show own_G p e below _ T5 (mkF m 74 #[.val (.int i0), .val (.int i1), .val (.int (0 : Int32)), .val (.int (0 : Int32)), .val (.ref a_INBOX), .val (.ref a_INBOX), .val (.int (0 : Int32))] [(.int (0 : Int32)), (.int (0 : Int32))])
      refine own_go (fun t k => XS.icmpNo X5.here hx rfl (hb hby at_74) rfl (by decide) k) ?_
      show own_G p e below _ T5 (mkF m 77 #[.val (.int i0), .val (.int i1), .val (.int (0 : Int32)), .val (.int (0 : Int32)), .val (.ref a_INBOX), .val (.ref a_INBOX), .val (.int (0 : Int32))] [])
      refine own_go (fun t k => XS.iconst X5.here hx rfl (hb hby at_77) k) ?_
      show own_G p e below _ T5 (mkF m 78 #[.val (.int i0), .val (.int i1), .val (.int (0 : Int32)), .val (.int (0 : Int32)), .val (.ref a_INBOX), .val (.ref a_INBOX), .val (.int (0 : Int32))] [(.int (1 : Int32))])
      refine own_go (fun t k => XS.goto X5.here hx rfl (pc0 := 78) (pc' := 82) rfl (hb hby at_78) (by decide) (by decide) k) ?_
      show own_G p e below _ T5 (mkF m 82 #[.val (.int i0), .val (.int i1), .val (.int (0 : Int32)), .val (.int (0 : Int32)), .val (.ref a_INBOX), .val (.ref a_INBOX), .val (.int (0 : Int32))] [(.int (1 : Int32))])
      exact own_retN X5 hx hlk hret (by simp) (hb hby at_82) (by decide) (by decide) ⟨rfl, N5⟩
    · rw [hk2]
      show own_G p e below _ T0 (mkF m 7 #[.val (.int i0), .val (.int i1), .val (.int (0 : Int32)), .unset, .unset, .unset, .unset] [(.int (1 : Int32))])
      refine own_go (fun t k => XS.istoreN X0.here hx rfl (hb hby at_7) rfl (l' := #[.val (.int i0), .val (.int i1), .val (.int (0 : Int32)), .val (.int (1 : Int32)), .unset, .unset, .unset]) rfl k) ?_
      show own_G p e below _ T0 (mkF m 8 #[.val (.int i0), .val (.int i1), .val (.int (0 : Int32)), .val (.int (1 : Int32)), .unset, .unset, .unset] [])
      refine own_go (fun t k => XS.iloadN X0.here hx rfl (hb hby at_8) rfl k) ?_
      show own_G p e below _ T0 (mkF m 9 #[.val (.int i0), .val (.int i1), .val (.int (0 : Int32)), .val (.int (1 : Int32)), .unset, .unset, .unset] [(.int (0 : Int32))])
      obtain ⟨T6, L6, v6, X6, ⟨rfl, rfl, q6⟩, st6⟩ := own_callS X0 hx hZ (y := (⟨"com/example/willebroek/willebroek/service/mailbox/MailboxFolderCanMoveToPinLaw", "pick", "(I)Lcom/example/willebroek/willebroek/service/mailbox/MailboxFolder;"⟩ : MethodName)) hown (hw _ (List.mem_of_getElem? (i := 0) rfl)) (hw _ (List.mem_of_getElem? (i := 1) rfl)) (hw _ (List.mem_of_getElem? (i := 2) rfl)) (hw _ (List.mem_of_getElem? (i := 3) rfl)) (by decide) (c_pick l Z a0 hw a_INBOX a_BINSENTBOX a_BININBOX a_SENTBOX (0 : Int32) h0 B ) e0 (argsL := [(.int (0 : Int32))]) (rest := []) (g := (mkF m 9 #[.val (.int i0), .val (.int i1), .val (.int (0 : Int32)), .val (.int (1 : Int32)), .unset, .unset, .unset] [(.int (0 : Int32))])) rfl (by rw [hml]; rfl) (ps := [.int]) (r := (some (.object "com/example/willebroek/willebroek/service/mailbox/MailboxFolder"))) (by decide +kernel) rfl rfl (W := 0) (by show 2 * 0 + _ ≤ _; exact Nat.le_of_eq rfl) (hb hby at_9) (by decide) (by decide) (by decide) (by decide)
      have N6 := Fr.app N0 (Fr.nil n0)
      refine own_go st6 ?_
      show own_G p e below _ T6 (mkF m 12 #[.val (.int i0), .val (.int i1), .val (.int (0 : Int32)), .val (.int (1 : Int32)), .unset, .unset, .unset] [(.ref (own_pick a_INBOX a_BINSENTBOX a_BININBOX a_SENTBOX (0 : Int32)))])
      have r6 : (own_pick a_INBOX a_BINSENTBOX a_BININBOX a_SENTBOX (0 : Int32)) = a_INBOX := by unfold own_pick; rw [if_pos (show ((0 : Int32) = (0 : Int32)) by decide)]
      rw [r6]
      show own_G p e below _ T6 (mkF m 12 #[.val (.int i0), .val (.int i1), .val (.int (0 : Int32)), .val (.int (1 : Int32)), .unset, .unset, .unset] [(.ref a_INBOX)])
      refine own_go (fun t k => XS.astore X6.here hx rfl (hb hby at_12) rfl rfl (l' := #[.val (.int i0), .val (.int i1), .val (.int (0 : Int32)), .val (.int (1 : Int32)), .val (.ref a_INBOX), .unset, .unset]) rfl k) ?_
      show own_G p e below _ T6 (mkF m 14 #[.val (.int i0), .val (.int i1), .val (.int (0 : Int32)), .val (.int (1 : Int32)), .val (.ref a_INBOX), .unset, .unset] [])
      refine own_go (fun t k => XS.iloadN X6.here hx rfl (hb hby at_14) rfl k) ?_
      show own_G p e below _ T6 (mkF m 15 #[.val (.int i0), .val (.int i1), .val (.int (0 : Int32)), .val (.int (1 : Int32)), .val (.ref a_INBOX), .unset, .unset] [(.int (1 : Int32))])
      obtain ⟨T7, L7, v7, X7, ⟨rfl, rfl, q7⟩, st7⟩ := own_callS X6 hx hZ (y := (⟨"com/example/willebroek/willebroek/service/mailbox/MailboxFolderCanMoveToPinLaw", "pick", "(I)Lcom/example/willebroek/willebroek/service/mailbox/MailboxFolder;"⟩ : MethodName)) hown (hw _ (List.mem_of_getElem? (i := 0) rfl)) (hw _ (List.mem_of_getElem? (i := 1) rfl)) (hw _ (List.mem_of_getElem? (i := 2) rfl)) (hw _ (List.mem_of_getElem? (i := 3) rfl)) (by decide) (c_pick l Z a0 hw a_INBOX a_BINSENTBOX a_BININBOX a_SENTBOX (1 : Int32) h0 B ) q6 (argsL := [(.int (1 : Int32))]) (rest := []) (g := (mkF m 15 #[.val (.int i0), .val (.int i1), .val (.int (0 : Int32)), .val (.int (1 : Int32)), .val (.ref a_INBOX), .unset, .unset] [(.int (1 : Int32))])) rfl (by rw [hml]; rfl) (ps := [.int]) (r := (some (.object "com/example/willebroek/willebroek/service/mailbox/MailboxFolder"))) (by decide +kernel) rfl rfl (W := 0) (by show 2 * 0 + _ ≤ _; exact Nat.le_of_eq rfl) (hb hby at_15) (by decide) (by decide) (by decide) (by decide)
      have N7 := Fr.app N6 (Fr.nil n0)
      refine own_go st7 ?_
      show own_G p e below _ T7 (mkF m 18 #[.val (.int i0), .val (.int i1), .val (.int (0 : Int32)), .val (.int (1 : Int32)), .val (.ref a_INBOX), .unset, .unset] [(.ref (own_pick a_INBOX a_BINSENTBOX a_BININBOX a_SENTBOX (1 : Int32)))])
      have r7 : (own_pick a_INBOX a_BINSENTBOX a_BININBOX a_SENTBOX (1 : Int32)) = a_SENTBOX := by unfold own_pick; rw [if_neg (show ¬ ((1 : Int32) = (0 : Int32)) by decide), if_pos (show ((1 : Int32) = (1 : Int32)) by decide)]
      rw [r7]
      show own_G p e below _ T7 (mkF m 18 #[.val (.int i0), .val (.int i1), .val (.int (0 : Int32)), .val (.int (1 : Int32)), .val (.ref a_INBOX), .unset, .unset] [(.ref a_SENTBOX)])
      refine own_go (fun t k => XS.astore X7.here hx rfl (hb hby at_18) rfl rfl (l' := #[.val (.int i0), .val (.int i1), .val (.int (0 : Int32)), .val (.int (1 : Int32)), .val (.ref a_INBOX), .val (.ref a_SENTBOX), .unset]) rfl k) ?_
      show own_G p e below _ T7 (mkF m 20 #[.val (.int i0), .val (.int i1), .val (.int (0 : Int32)), .val (.int (1 : Int32)), .val (.ref a_INBOX), .val (.ref a_SENTBOX), .unset] [])
      refine own_go (fun t k => XS.iloadN X7.here hx rfl (hb hby at_20) rfl k) ?_
      show own_G p e below _ T7 (mkF m 21 #[.val (.int i0), .val (.int i1), .val (.int (0 : Int32)), .val (.int (1 : Int32)), .val (.ref a_INBOX), .val (.ref a_SENTBOX), .unset] [(.int (0 : Int32))])
      refine own_go (fun t k => XS.ifNo X7.here hx rfl (hb hby at_21) rfl (by decide) k) ?_
      show own_G p e below _ T7 (mkF m 24 #[.val (.int i0), .val (.int i1), .val (.int (0 : Int32)), .val (.int (1 : Int32)), .val (.ref a_INBOX), .val (.ref a_SENTBOX), .unset] [])
      refine own_go (fun t k => XS.iloadN X7.here hx rfl (hb hby at_24) rfl k) ?_
      show own_G p e below _ T7 (mkF m 25 #[.val (.int i0), .val (.int i1), .val (.int (0 : Int32)), .val (.int (1 : Int32)), .val (.ref a_INBOX), .val (.ref a_SENTBOX), .unset] [(.int (1 : Int32))])
      refine own_go (fun t k => XS.iconst X7.here hx rfl (hb hby at_25) k) ?_
      show own_G p e below _ T7 (mkF m 26 #[.val (.int i0), .val (.int i1), .val (.int (0 : Int32)), .val (.int (1 : Int32)), .val (.ref a_INBOX), .val (.ref a_SENTBOX), .unset] [(.int (2 : Int32)), (.int (1 : Int32))])
      refine own_go (fun t k => XS.icmpNo X7.here hx rfl (hb hby at_26) rfl (by decide) k) ?_
      show own_G p e below _ T7 (mkF m 29 #[.val (.int i0), .val (.int i1), .val (.int (0 : Int32)), .val (.int (1 : Int32)), .val (.ref a_INBOX), .val (.ref a_SENTBOX), .unset] [])
      refine own_go (fun t k => XS.iloadN X7.here hx rfl (hb hby at_29) rfl k) ?_
      show own_G p e below _ T7 (mkF m 30 #[.val (.int i0), .val (.int i1), .val (.int (0 : Int32)), .val (.int (1 : Int32)), .val (.ref a_INBOX), .val (.ref a_SENTBOX), .unset] [(.int (0 : Int32))])
      refine own_go (fun t k => XS.iconst X7.here hx rfl (hb hby at_30) k) ?_
      show own_G p e below _ T7 (mkF m 31 #[.val (.int i0), .val (.int i1), .val (.int (0 : Int32)), .val (.int (1 : Int32)), .val (.ref a_INBOX), .val (.ref a_SENTBOX), .unset] [(.int (2 : Int32)), (.int (0 : Int32))])
      refine own_go (fun t k => XS.icmpYes X7.here hx rfl (pc0 := 31) (pc' := 38) rfl (hb hby at_31) rfl (by decide) (by decide) (by decide) k) ?_
      show own_G p e below _ T7 (mkF m 38 #[.val (.int i0), .val (.int i1), .val (.int (0 : Int32)), .val (.int (1 : Int32)), .val (.ref a_INBOX), .val (.ref a_SENTBOX), .unset] [])
      refine own_go (fun t k => XS.iloadN X7.here hx rfl (hb hby at_38) rfl k) ?_
      show own_G p e below _ T7 (mkF m 39 #[.val (.int i0), .val (.int i1), .val (.int (0 : Int32)), .val (.int (1 : Int32)), .val (.ref a_INBOX), .val (.ref a_SENTBOX), .unset] [(.int (0 : Int32))])
      refine own_go (fun t k => XS.iconst X7.here hx rfl (hb hby at_39) k) ?_
      show own_G p e below _ T7 (mkF m 40 #[.val (.int i0), .val (.int i1), .val (.int (0 : Int32)), .val (.int (1 : Int32)), .val (.ref a_INBOX), .val (.ref a_SENTBOX), .unset] [(.int (1 : Int32)), (.int (0 : Int32))])
      refine own_go (fun t k => XS.icmpYes X7.here hx rfl (pc0 := 40) (pc' := 48) rfl (hb hby at_40) rfl (by decide) (by decide) (by decide) k) ?_
      show own_G p e below _ T7 (mkF m 48 #[.val (.int i0), .val (.int i1), .val (.int (0 : Int32)), .val (.int (1 : Int32)), .val (.ref a_INBOX), .val (.ref a_SENTBOX), .unset] [])
      refine own_go (fun t k => XS.iloadN X7.here hx rfl (hb hby at_48) rfl k) ?_
      show own_G p e below _ T7 (mkF m 49 #[.val (.int i0), .val (.int i1), .val (.int (0 : Int32)), .val (.int (1 : Int32)), .val (.ref a_INBOX), .val (.ref a_SENTBOX), .unset] [(.int (0 : Int32))])
      refine own_go (fun t k => XS.iconst X7.here hx rfl (hb hby at_49) k) ?_
      show own_G p e below _ T7 (mkF m 50 #[.val (.int i0), .val (.int i1), .val (.int (0 : Int32)), .val (.int (1 : Int32)), .val (.ref a_INBOX), .val (.ref a_SENTBOX), .unset] [(.int (3 : Int32)), (.int (0 : Int32))])
      refine own_go (fun t k => XS.icmpYes X7.here hx rfl (pc0 := 50) (pc' := 62) rfl (hb hby at_50) rfl (by decide) (by decide) (by decide) k) ?_
      show own_G p e below _ T7 (mkF m 62 #[.val (.int i0), .val (.int i1), .val (.int (0 : Int32)), .val (.int (1 : Int32)), .val (.ref a_INBOX), .val (.ref a_SENTBOX), .unset] [])
      refine own_go (fun t k => XS.iconst X7.here hx rfl (hb hby at_62) k) ?_
      show own_G p e below _ T7 (mkF m 63 #[.val (.int i0), .val (.int i1), .val (.int (0 : Int32)), .val (.int (1 : Int32)), .val (.ref a_INBOX), .val (.ref a_SENTBOX), .unset] [(.int (0 : Int32))])
      refine own_go (fun t k => XS.istore X7.here hx rfl (hb hby at_63) rfl (l' := #[.val (.int i0), .val (.int i1), .val (.int (0 : Int32)), .val (.int (1 : Int32)), .val (.ref a_INBOX), .val (.ref a_SENTBOX), .val (.int (0 : Int32))]) rfl k) ?_
      show own_G p e below _ T7 (mkF m 65 #[.val (.int i0), .val (.int i1), .val (.int (0 : Int32)), .val (.int (1 : Int32)), .val (.ref a_INBOX), .val (.ref a_SENTBOX), .val (.int (0 : Int32))] [])
      refine own_go (fun t k => XS.aload X7.here hx rfl (hb hby at_65) rfl rfl k) ?_
      show own_G p e below _ T7 (mkF m 67 #[.val (.int i0), .val (.int i1), .val (.int (0 : Int32)), .val (.int (1 : Int32)), .val (.ref a_INBOX), .val (.ref a_SENTBOX), .val (.int (0 : Int32))] [(.ref a_INBOX)])
      refine own_go (fun t k => XS.aload X7.here hx rfl (hb hby at_67) rfl rfl k) ?_
      show own_G p e below _ T7 (mkF m 69 #[.val (.int i0), .val (.int i1), .val (.int (0 : Int32)), .val (.int (1 : Int32)), .val (.ref a_INBOX), .val (.ref a_SENTBOX), .val (.int (0 : Int32))] [(.ref a_SENTBOX), (.ref a_INBOX)])
      obtain ⟨T8, L8, v8, X8, ⟨rfl, rfl, q8⟩, st8⟩ := own_callV X7 hx hZ (y := (⟨"com/example/willebroek/willebroek/service/mailbox/MailboxFolder", "canMoveTo", "(Lcom/example/willebroek/willebroek/service/mailbox/MailboxFolder;)Z"⟩ : MethodName)) (z := (⟨"com/example/willebroek/willebroek/service/mailbox/MailboxFolder", "canMoveTo", "(Lcom/example/willebroek/willebroek/service/mailbox/MailboxFolder;)Z"⟩ : MethodName)) hown (hw _ (List.mem_of_getElem? (i := 9) rfl)) (hw _ (List.mem_of_getElem? (i := 10) rfl)) (hw _ (List.mem_of_getElem? (i := 12) rfl)) (hw _ (List.mem_of_getElem? (i := 12) rfl)) (hw _ (List.mem_of_getElem? (i := 11) rfl)) (hw _ (List.mem_of_getElem? (i := 13) rfl)) (hw _ (List.mem_of_getElem? (i := 5) rfl)) (notFace_of_selects (args := #[]) (mvT hZ (hw _ (List.mem_of_getElem? (i := 12) rfl)))) (by decide) (c_can l Z a0 hw a_INBOX a_SENTBOX (0 : Int32) (1 : Int32) h0  F_INBOX_sent F_SENTBOX_sent) q7 E_INBOX (argsL := [(.ref a_SENTBOX)]) (rest := []) (g := (mkF m 69 #[.val (.int i0), .val (.int i1), .val (.int (0 : Int32)), .val (.int (1 : Int32)), .val (.ref a_INBOX), .val (.ref a_SENTBOX), .val (.int (0 : Int32))] [(.ref a_SENTBOX), (.ref a_INBOX)])) rfl (by rw [hml]; rfl) (ps := [(.object "com/example/willebroek/willebroek/service/mailbox/MailboxFolder")]) (r := (some .boolean)) (by decide +kernel) rfl rfl (W := 0) (by show 2 * 0 + _ ≤ _; exact Nat.le_of_eq rfl) (hb hby at_69) (by decide) (by decide) (by decide) (by decide)
      have N8 := Fr.app N7 (Fr.nil n0)
      refine own_go st8 ?_
      show own_G p e below _ T8 (mkF m 72 #[.val (.int i0), .val (.int i1), .val (.int (0 : Int32)), .val (.int (1 : Int32)), .val (.ref a_INBOX), .val (.ref a_SENTBOX), .val (.int (0 : Int32))] [(.int (own_can a_INBOX a_SENTBOX (0 : Int32) (1 : Int32)))])
      have r8 : (own_can a_INBOX a_SENTBOX (0 : Int32) (1 : Int32)) = (0 : Int32) := by unfold own_can; rw [if_neg (Fld.ne F_SENTBOX_ordinal F_INBOX_ordinal (own_neV (by decide))), if_neg (show ¬ ((1 : Int32) = (0 : Int32)) by decide)]; rfl
      rw [r8]
      show own_G p e below _ T8 (mkF m 72 #[.val (.int i0), .val (.int i1), .val (.int (0 : Int32)), .val (.int (1 : Int32)), .val (.ref a_INBOX), .val (.ref a_SENTBOX), .val (.int (0 : Int32))] [(.int (0 : Int32))])
      refine own_go (fun t k => XS.iload X8.here hx rfl (hb hby at_72) rfl k) ?_
      show own_G p e below _ T8 (mkF m 74 #[.val (.int i0), .val (.int i1), .val (.int (0 : Int32)), .val (.int (1 : Int32)), .val (.ref a_INBOX), .val (.ref a_SENTBOX), .val (.int (0 : Int32))] [(.int (0 : Int32)), (.int (0 : Int32))])
      refine own_go (fun t k => XS.icmpNo X8.here hx rfl (hb hby at_74) rfl (by decide) k) ?_
      show own_G p e below _ T8 (mkF m 77 #[.val (.int i0), .val (.int i1), .val (.int (0 : Int32)), .val (.int (1 : Int32)), .val (.ref a_INBOX), .val (.ref a_SENTBOX), .val (.int (0 : Int32))] [])
      refine own_go (fun t k => XS.iconst X8.here hx rfl (hb hby at_77) k) ?_
      show own_G p e below _ T8 (mkF m 78 #[.val (.int i0), .val (.int i1), .val (.int (0 : Int32)), .val (.int (1 : Int32)), .val (.ref a_INBOX), .val (.ref a_SENTBOX), .val (.int (0 : Int32))] [(.int (1 : Int32))])
      refine own_go (fun t k => XS.goto X8.here hx rfl (pc0 := 78) (pc' := 82) rfl (hb hby at_78) (by decide) (by decide) k) ?_
      show own_G p e below _ T8 (mkF m 82 #[.val (.int i0), .val (.int i1), .val (.int (0 : Int32)), .val (.int (1 : Int32)), .val (.ref a_INBOX), .val (.ref a_SENTBOX), .val (.int (0 : Int32))] [(.int (1 : Int32))])
      exact own_retN X8 hx hlk hret (by simp) (hb hby at_82) (by decide) (by decide) ⟨rfl, N8⟩
    · rw [hk2]
      show own_G p e below _ T0 (mkF m 7 #[.val (.int i0), .val (.int i1), .val (.int (0 : Int32)), .unset, .unset, .unset, .unset] [(.int (2 : Int32))])
      refine own_go (fun t k => XS.istoreN X0.here hx rfl (hb hby at_7) rfl (l' := #[.val (.int i0), .val (.int i1), .val (.int (0 : Int32)), .val (.int (2 : Int32)), .unset, .unset, .unset]) rfl k) ?_
      show own_G p e below _ T0 (mkF m 8 #[.val (.int i0), .val (.int i1), .val (.int (0 : Int32)), .val (.int (2 : Int32)), .unset, .unset, .unset] [])
      refine own_go (fun t k => XS.iloadN X0.here hx rfl (hb hby at_8) rfl k) ?_
      show own_G p e below _ T0 (mkF m 9 #[.val (.int i0), .val (.int i1), .val (.int (0 : Int32)), .val (.int (2 : Int32)), .unset, .unset, .unset] [(.int (0 : Int32))])
      obtain ⟨T9, L9, v9, X9, ⟨rfl, rfl, q9⟩, st9⟩ := own_callS X0 hx hZ (y := (⟨"com/example/willebroek/willebroek/service/mailbox/MailboxFolderCanMoveToPinLaw", "pick", "(I)Lcom/example/willebroek/willebroek/service/mailbox/MailboxFolder;"⟩ : MethodName)) hown (hw _ (List.mem_of_getElem? (i := 0) rfl)) (hw _ (List.mem_of_getElem? (i := 1) rfl)) (hw _ (List.mem_of_getElem? (i := 2) rfl)) (hw _ (List.mem_of_getElem? (i := 3) rfl)) (by decide) (c_pick l Z a0 hw a_INBOX a_BINSENTBOX a_BININBOX a_SENTBOX (0 : Int32) h0 B ) e0 (argsL := [(.int (0 : Int32))]) (rest := []) (g := (mkF m 9 #[.val (.int i0), .val (.int i1), .val (.int (0 : Int32)), .val (.int (2 : Int32)), .unset, .unset, .unset] [(.int (0 : Int32))])) rfl (by rw [hml]; rfl) (ps := [.int]) (r := (some (.object "com/example/willebroek/willebroek/service/mailbox/MailboxFolder"))) (by decide +kernel) rfl rfl (W := 0) (by show 2 * 0 + _ ≤ _; exact Nat.le_of_eq rfl) (hb hby at_9) (by decide) (by decide) (by decide) (by decide)
      have N9 := Fr.app N0 (Fr.nil n0)
      refine own_go st9 ?_
      show own_G p e below _ T9 (mkF m 12 #[.val (.int i0), .val (.int i1), .val (.int (0 : Int32)), .val (.int (2 : Int32)), .unset, .unset, .unset] [(.ref (own_pick a_INBOX a_BINSENTBOX a_BININBOX a_SENTBOX (0 : Int32)))])
      have r9 : (own_pick a_INBOX a_BINSENTBOX a_BININBOX a_SENTBOX (0 : Int32)) = a_INBOX := by unfold own_pick; rw [if_pos (show ((0 : Int32) = (0 : Int32)) by decide)]
      rw [r9]
      show own_G p e below _ T9 (mkF m 12 #[.val (.int i0), .val (.int i1), .val (.int (0 : Int32)), .val (.int (2 : Int32)), .unset, .unset, .unset] [(.ref a_INBOX)])
      refine own_go (fun t k => XS.astore X9.here hx rfl (hb hby at_12) rfl rfl (l' := #[.val (.int i0), .val (.int i1), .val (.int (0 : Int32)), .val (.int (2 : Int32)), .val (.ref a_INBOX), .unset, .unset]) rfl k) ?_
      show own_G p e below _ T9 (mkF m 14 #[.val (.int i0), .val (.int i1), .val (.int (0 : Int32)), .val (.int (2 : Int32)), .val (.ref a_INBOX), .unset, .unset] [])
      refine own_go (fun t k => XS.iloadN X9.here hx rfl (hb hby at_14) rfl k) ?_
      show own_G p e below _ T9 (mkF m 15 #[.val (.int i0), .val (.int i1), .val (.int (0 : Int32)), .val (.int (2 : Int32)), .val (.ref a_INBOX), .unset, .unset] [(.int (2 : Int32))])
      obtain ⟨T10, L10, v10, X10, ⟨rfl, rfl, q10⟩, st10⟩ := own_callS X9 hx hZ (y := (⟨"com/example/willebroek/willebroek/service/mailbox/MailboxFolderCanMoveToPinLaw", "pick", "(I)Lcom/example/willebroek/willebroek/service/mailbox/MailboxFolder;"⟩ : MethodName)) hown (hw _ (List.mem_of_getElem? (i := 0) rfl)) (hw _ (List.mem_of_getElem? (i := 1) rfl)) (hw _ (List.mem_of_getElem? (i := 2) rfl)) (hw _ (List.mem_of_getElem? (i := 3) rfl)) (by decide) (c_pick l Z a0 hw a_INBOX a_BINSENTBOX a_BININBOX a_SENTBOX (2 : Int32) h0 B ) q9 (argsL := [(.int (2 : Int32))]) (rest := []) (g := (mkF m 15 #[.val (.int i0), .val (.int i1), .val (.int (0 : Int32)), .val (.int (2 : Int32)), .val (.ref a_INBOX), .unset, .unset] [(.int (2 : Int32))])) rfl (by rw [hml]; rfl) (ps := [.int]) (r := (some (.object "com/example/willebroek/willebroek/service/mailbox/MailboxFolder"))) (by decide +kernel) rfl rfl (W := 0) (by show 2 * 0 + _ ≤ _; exact Nat.le_of_eq rfl) (hb hby at_15) (by decide) (by decide) (by decide) (by decide)
      have N10 := Fr.app N9 (Fr.nil n0)
      refine own_go st10 ?_
      show own_G p e below _ T10 (mkF m 18 #[.val (.int i0), .val (.int i1), .val (.int (0 : Int32)), .val (.int (2 : Int32)), .val (.ref a_INBOX), .unset, .unset] [(.ref (own_pick a_INBOX a_BINSENTBOX a_BININBOX a_SENTBOX (2 : Int32)))])
      have r10 : (own_pick a_INBOX a_BINSENTBOX a_BININBOX a_SENTBOX (2 : Int32)) = a_BININBOX := by unfold own_pick; rw [if_neg (show ¬ ((2 : Int32) = (0 : Int32)) by decide), if_neg (show ¬ ((2 : Int32) = (1 : Int32)) by decide), if_pos (show ((2 : Int32) = (2 : Int32)) by decide)]
      rw [r10]
      show own_G p e below _ T10 (mkF m 18 #[.val (.int i0), .val (.int i1), .val (.int (0 : Int32)), .val (.int (2 : Int32)), .val (.ref a_INBOX), .unset, .unset] [(.ref a_BININBOX)])
      refine own_go (fun t k => XS.astore X10.here hx rfl (hb hby at_18) rfl rfl (l' := #[.val (.int i0), .val (.int i1), .val (.int (0 : Int32)), .val (.int (2 : Int32)), .val (.ref a_INBOX), .val (.ref a_BININBOX), .unset]) rfl k) ?_
      show own_G p e below _ T10 (mkF m 20 #[.val (.int i0), .val (.int i1), .val (.int (0 : Int32)), .val (.int (2 : Int32)), .val (.ref a_INBOX), .val (.ref a_BININBOX), .unset] [])
      refine own_go (fun t k => XS.iloadN X10.here hx rfl (hb hby at_20) rfl k) ?_
      show own_G p e below _ T10 (mkF m 21 #[.val (.int i0), .val (.int i1), .val (.int (0 : Int32)), .val (.int (2 : Int32)), .val (.ref a_INBOX), .val (.ref a_BININBOX), .unset] [(.int (0 : Int32))])
      refine own_go (fun t k => XS.ifNo X10.here hx rfl (hb hby at_21) rfl (by decide) k) ?_
      show own_G p e below _ T10 (mkF m 24 #[.val (.int i0), .val (.int i1), .val (.int (0 : Int32)), .val (.int (2 : Int32)), .val (.ref a_INBOX), .val (.ref a_BININBOX), .unset] [])
      refine own_go (fun t k => XS.iloadN X10.here hx rfl (hb hby at_24) rfl k) ?_
      show own_G p e below _ T10 (mkF m 25 #[.val (.int i0), .val (.int i1), .val (.int (0 : Int32)), .val (.int (2 : Int32)), .val (.ref a_INBOX), .val (.ref a_BININBOX), .unset] [(.int (2 : Int32))])
      refine own_go (fun t k => XS.iconst X10.here hx rfl (hb hby at_25) k) ?_
      show own_G p e below _ T10 (mkF m 26 #[.val (.int i0), .val (.int i1), .val (.int (0 : Int32)), .val (.int (2 : Int32)), .val (.ref a_INBOX), .val (.ref a_BININBOX), .unset] [(.int (2 : Int32)), (.int (2 : Int32))])
      refine own_go (fun t k => XS.icmpYes X10.here hx rfl (pc0 := 26) (pc' := 58) rfl (hb hby at_26) rfl (by decide) (by decide) (by decide) k) ?_
      show own_G p e below _ T10 (mkF m 58 #[.val (.int i0), .val (.int i1), .val (.int (0 : Int32)), .val (.int (2 : Int32)), .val (.ref a_INBOX), .val (.ref a_BININBOX), .unset] [])
      refine own_go (fun t k => XS.iconst X10.here hx rfl (hb hby at_58) k) ?_
      show own_G p e below _ T10 (mkF m 59 #[.val (.int i0), .val (.int i1), .val (.int (0 : Int32)), .val (.int (2 : Int32)), .val (.ref a_INBOX), .val (.ref a_BININBOX), .unset] [(.int (1 : Int32))])
      refine own_go (fun t k => XS.goto X10.here hx rfl (pc0 := 59) (pc' := 63) rfl (hb hby at_59) (by decide) (by decide) k) ?_
      show own_G p e below _ T10 (mkF m 63 #[.val (.int i0), .val (.int i1), .val (.int (0 : Int32)), .val (.int (2 : Int32)), .val (.ref a_INBOX), .val (.ref a_BININBOX), .unset] [(.int (1 : Int32))])
      refine own_go (fun t k => XS.istore X10.here hx rfl (hb hby at_63) rfl (l' := #[.val (.int i0), .val (.int i1), .val (.int (0 : Int32)), .val (.int (2 : Int32)), .val (.ref a_INBOX), .val (.ref a_BININBOX), .val (.int (1 : Int32))]) rfl k) ?_
      show own_G p e below _ T10 (mkF m 65 #[.val (.int i0), .val (.int i1), .val (.int (0 : Int32)), .val (.int (2 : Int32)), .val (.ref a_INBOX), .val (.ref a_BININBOX), .val (.int (1 : Int32))] [])
      refine own_go (fun t k => XS.aload X10.here hx rfl (hb hby at_65) rfl rfl k) ?_
      show own_G p e below _ T10 (mkF m 67 #[.val (.int i0), .val (.int i1), .val (.int (0 : Int32)), .val (.int (2 : Int32)), .val (.ref a_INBOX), .val (.ref a_BININBOX), .val (.int (1 : Int32))] [(.ref a_INBOX)])
      refine own_go (fun t k => XS.aload X10.here hx rfl (hb hby at_67) rfl rfl k) ?_
      show own_G p e below _ T10 (mkF m 69 #[.val (.int i0), .val (.int i1), .val (.int (0 : Int32)), .val (.int (2 : Int32)), .val (.ref a_INBOX), .val (.ref a_BININBOX), .val (.int (1 : Int32))] [(.ref a_BININBOX), (.ref a_INBOX)])
      obtain ⟨T11, L11, v11, X11, ⟨rfl, rfl, q11⟩, st11⟩ := own_callV X10 hx hZ (y := (⟨"com/example/willebroek/willebroek/service/mailbox/MailboxFolder", "canMoveTo", "(Lcom/example/willebroek/willebroek/service/mailbox/MailboxFolder;)Z"⟩ : MethodName)) (z := (⟨"com/example/willebroek/willebroek/service/mailbox/MailboxFolder", "canMoveTo", "(Lcom/example/willebroek/willebroek/service/mailbox/MailboxFolder;)Z"⟩ : MethodName)) hown (hw _ (List.mem_of_getElem? (i := 9) rfl)) (hw _ (List.mem_of_getElem? (i := 10) rfl)) (hw _ (List.mem_of_getElem? (i := 12) rfl)) (hw _ (List.mem_of_getElem? (i := 12) rfl)) (hw _ (List.mem_of_getElem? (i := 11) rfl)) (hw _ (List.mem_of_getElem? (i := 13) rfl)) (hw _ (List.mem_of_getElem? (i := 5) rfl)) (notFace_of_selects (args := #[]) (mvT hZ (hw _ (List.mem_of_getElem? (i := 12) rfl)))) (by decide) (c_can l Z a0 hw a_INBOX a_BININBOX (0 : Int32) (0 : Int32) h0  F_INBOX_sent F_BININBOX_sent) q10 E_INBOX (argsL := [(.ref a_BININBOX)]) (rest := []) (g := (mkF m 69 #[.val (.int i0), .val (.int i1), .val (.int (0 : Int32)), .val (.int (2 : Int32)), .val (.ref a_INBOX), .val (.ref a_BININBOX), .val (.int (1 : Int32))] [(.ref a_BININBOX), (.ref a_INBOX)])) rfl (by rw [hml]; rfl) (ps := [(.object "com/example/willebroek/willebroek/service/mailbox/MailboxFolder")]) (r := (some .boolean)) (by decide +kernel) rfl rfl (W := 0) (by show 2 * 0 + _ ≤ _; exact Nat.le_of_eq rfl) (hb hby at_69) (by decide) (by decide) (by decide) (by decide)
      have N11 := Fr.app N10 (Fr.nil n0)
      refine own_go st11 ?_
      show own_G p e below _ T11 (mkF m 72 #[.val (.int i0), .val (.int i1), .val (.int (0 : Int32)), .val (.int (2 : Int32)), .val (.ref a_INBOX), .val (.ref a_BININBOX), .val (.int (1 : Int32))] [(.int (own_can a_INBOX a_BININBOX (0 : Int32) (0 : Int32)))])
      have r11 : (own_can a_INBOX a_BININBOX (0 : Int32) (0 : Int32)) = (1 : Int32) := by unfold own_can; rw [if_neg (Fld.ne F_BININBOX_ordinal F_INBOX_ordinal (own_neV (by decide))), if_pos (show ((0 : Int32) = (0 : Int32)) by decide)]; rfl
      rw [r11]
      show own_G p e below _ T11 (mkF m 72 #[.val (.int i0), .val (.int i1), .val (.int (0 : Int32)), .val (.int (2 : Int32)), .val (.ref a_INBOX), .val (.ref a_BININBOX), .val (.int (1 : Int32))] [(.int (1 : Int32))])
      refine own_go (fun t k => XS.iload X11.here hx rfl (hb hby at_72) rfl k) ?_
      show own_G p e below _ T11 (mkF m 74 #[.val (.int i0), .val (.int i1), .val (.int (0 : Int32)), .val (.int (2 : Int32)), .val (.ref a_INBOX), .val (.ref a_BININBOX), .val (.int (1 : Int32))] [(.int (1 : Int32)), (.int (1 : Int32))])
      refine own_go (fun t k => XS.icmpNo X11.here hx rfl (hb hby at_74) rfl (by decide) k) ?_
      show own_G p e below _ T11 (mkF m 77 #[.val (.int i0), .val (.int i1), .val (.int (0 : Int32)), .val (.int (2 : Int32)), .val (.ref a_INBOX), .val (.ref a_BININBOX), .val (.int (1 : Int32))] [])
      refine own_go (fun t k => XS.iconst X11.here hx rfl (hb hby at_77) k) ?_
      show own_G p e below _ T11 (mkF m 78 #[.val (.int i0), .val (.int i1), .val (.int (0 : Int32)), .val (.int (2 : Int32)), .val (.ref a_INBOX), .val (.ref a_BININBOX), .val (.int (1 : Int32))] [(.int (1 : Int32))])
      refine own_go (fun t k => XS.goto X11.here hx rfl (pc0 := 78) (pc' := 82) rfl (hb hby at_78) (by decide) (by decide) k) ?_
      show own_G p e below _ T11 (mkF m 82 #[.val (.int i0), .val (.int i1), .val (.int (0 : Int32)), .val (.int (2 : Int32)), .val (.ref a_INBOX), .val (.ref a_BININBOX), .val (.int (1 : Int32))] [(.int (1 : Int32))])
      exact own_retN X11 hx hlk hret (by simp) (hb hby at_82) (by decide) (by decide) ⟨rfl, N11⟩
    · rw [hk2]
      show own_G p e below _ T0 (mkF m 7 #[.val (.int i0), .val (.int i1), .val (.int (0 : Int32)), .unset, .unset, .unset, .unset] [(.int (3 : Int32))])
      refine own_go (fun t k => XS.istoreN X0.here hx rfl (hb hby at_7) rfl (l' := #[.val (.int i0), .val (.int i1), .val (.int (0 : Int32)), .val (.int (3 : Int32)), .unset, .unset, .unset]) rfl k) ?_
      show own_G p e below _ T0 (mkF m 8 #[.val (.int i0), .val (.int i1), .val (.int (0 : Int32)), .val (.int (3 : Int32)), .unset, .unset, .unset] [])
      refine own_go (fun t k => XS.iloadN X0.here hx rfl (hb hby at_8) rfl k) ?_
      show own_G p e below _ T0 (mkF m 9 #[.val (.int i0), .val (.int i1), .val (.int (0 : Int32)), .val (.int (3 : Int32)), .unset, .unset, .unset] [(.int (0 : Int32))])
      obtain ⟨T12, L12, v12, X12, ⟨rfl, rfl, q12⟩, st12⟩ := own_callS X0 hx hZ (y := (⟨"com/example/willebroek/willebroek/service/mailbox/MailboxFolderCanMoveToPinLaw", "pick", "(I)Lcom/example/willebroek/willebroek/service/mailbox/MailboxFolder;"⟩ : MethodName)) hown (hw _ (List.mem_of_getElem? (i := 0) rfl)) (hw _ (List.mem_of_getElem? (i := 1) rfl)) (hw _ (List.mem_of_getElem? (i := 2) rfl)) (hw _ (List.mem_of_getElem? (i := 3) rfl)) (by decide) (c_pick l Z a0 hw a_INBOX a_BINSENTBOX a_BININBOX a_SENTBOX (0 : Int32) h0 B ) e0 (argsL := [(.int (0 : Int32))]) (rest := []) (g := (mkF m 9 #[.val (.int i0), .val (.int i1), .val (.int (0 : Int32)), .val (.int (3 : Int32)), .unset, .unset, .unset] [(.int (0 : Int32))])) rfl (by rw [hml]; rfl) (ps := [.int]) (r := (some (.object "com/example/willebroek/willebroek/service/mailbox/MailboxFolder"))) (by decide +kernel) rfl rfl (W := 0) (by show 2 * 0 + _ ≤ _; exact Nat.le_of_eq rfl) (hb hby at_9) (by decide) (by decide) (by decide) (by decide)
      have N12 := Fr.app N0 (Fr.nil n0)
      refine own_go st12 ?_
      show own_G p e below _ T12 (mkF m 12 #[.val (.int i0), .val (.int i1), .val (.int (0 : Int32)), .val (.int (3 : Int32)), .unset, .unset, .unset] [(.ref (own_pick a_INBOX a_BINSENTBOX a_BININBOX a_SENTBOX (0 : Int32)))])
      have r12 : (own_pick a_INBOX a_BINSENTBOX a_BININBOX a_SENTBOX (0 : Int32)) = a_INBOX := by unfold own_pick; rw [if_pos (show ((0 : Int32) = (0 : Int32)) by decide)]
      rw [r12]
      show own_G p e below _ T12 (mkF m 12 #[.val (.int i0), .val (.int i1), .val (.int (0 : Int32)), .val (.int (3 : Int32)), .unset, .unset, .unset] [(.ref a_INBOX)])
      refine own_go (fun t k => XS.astore X12.here hx rfl (hb hby at_12) rfl rfl (l' := #[.val (.int i0), .val (.int i1), .val (.int (0 : Int32)), .val (.int (3 : Int32)), .val (.ref a_INBOX), .unset, .unset]) rfl k) ?_
      show own_G p e below _ T12 (mkF m 14 #[.val (.int i0), .val (.int i1), .val (.int (0 : Int32)), .val (.int (3 : Int32)), .val (.ref a_INBOX), .unset, .unset] [])
      refine own_go (fun t k => XS.iloadN X12.here hx rfl (hb hby at_14) rfl k) ?_
      show own_G p e below _ T12 (mkF m 15 #[.val (.int i0), .val (.int i1), .val (.int (0 : Int32)), .val (.int (3 : Int32)), .val (.ref a_INBOX), .unset, .unset] [(.int (3 : Int32))])
      obtain ⟨T13, L13, v13, X13, ⟨rfl, rfl, q13⟩, st13⟩ := own_callS X12 hx hZ (y := (⟨"com/example/willebroek/willebroek/service/mailbox/MailboxFolderCanMoveToPinLaw", "pick", "(I)Lcom/example/willebroek/willebroek/service/mailbox/MailboxFolder;"⟩ : MethodName)) hown (hw _ (List.mem_of_getElem? (i := 0) rfl)) (hw _ (List.mem_of_getElem? (i := 1) rfl)) (hw _ (List.mem_of_getElem? (i := 2) rfl)) (hw _ (List.mem_of_getElem? (i := 3) rfl)) (by decide) (c_pick l Z a0 hw a_INBOX a_BINSENTBOX a_BININBOX a_SENTBOX (3 : Int32) h0 B ) q12 (argsL := [(.int (3 : Int32))]) (rest := []) (g := (mkF m 15 #[.val (.int i0), .val (.int i1), .val (.int (0 : Int32)), .val (.int (3 : Int32)), .val (.ref a_INBOX), .unset, .unset] [(.int (3 : Int32))])) rfl (by rw [hml]; rfl) (ps := [.int]) (r := (some (.object "com/example/willebroek/willebroek/service/mailbox/MailboxFolder"))) (by decide +kernel) rfl rfl (W := 0) (by show 2 * 0 + _ ≤ _; exact Nat.le_of_eq rfl) (hb hby at_15) (by decide) (by decide) (by decide) (by decide)
      have N13 := Fr.app N12 (Fr.nil n0)
      refine own_go st13 ?_
      show own_G p e below _ T13 (mkF m 18 #[.val (.int i0), .val (.int i1), .val (.int (0 : Int32)), .val (.int (3 : Int32)), .val (.ref a_INBOX), .unset, .unset] [(.ref (own_pick a_INBOX a_BINSENTBOX a_BININBOX a_SENTBOX (3 : Int32)))])
      have r13 : (own_pick a_INBOX a_BINSENTBOX a_BININBOX a_SENTBOX (3 : Int32)) = a_BINSENTBOX := by unfold own_pick; rw [if_neg (show ¬ ((3 : Int32) = (0 : Int32)) by decide), if_neg (show ¬ ((3 : Int32) = (1 : Int32)) by decide), if_neg (show ¬ ((3 : Int32) = (2 : Int32)) by decide)]
      rw [r13]
      show own_G p e below _ T13 (mkF m 18 #[.val (.int i0), .val (.int i1), .val (.int (0 : Int32)), .val (.int (3 : Int32)), .val (.ref a_INBOX), .unset, .unset] [(.ref a_BINSENTBOX)])
      refine own_go (fun t k => XS.astore X13.here hx rfl (hb hby at_18) rfl rfl (l' := #[.val (.int i0), .val (.int i1), .val (.int (0 : Int32)), .val (.int (3 : Int32)), .val (.ref a_INBOX), .val (.ref a_BINSENTBOX), .unset]) rfl k) ?_
      show own_G p e below _ T13 (mkF m 20 #[.val (.int i0), .val (.int i1), .val (.int (0 : Int32)), .val (.int (3 : Int32)), .val (.ref a_INBOX), .val (.ref a_BINSENTBOX), .unset] [])
      refine own_go (fun t k => XS.iloadN X13.here hx rfl (hb hby at_20) rfl k) ?_
      show own_G p e below _ T13 (mkF m 21 #[.val (.int i0), .val (.int i1), .val (.int (0 : Int32)), .val (.int (3 : Int32)), .val (.ref a_INBOX), .val (.ref a_BINSENTBOX), .unset] [(.int (0 : Int32))])
      refine own_go (fun t k => XS.ifNo X13.here hx rfl (hb hby at_21) rfl (by decide) k) ?_
      show own_G p e below _ T13 (mkF m 24 #[.val (.int i0), .val (.int i1), .val (.int (0 : Int32)), .val (.int (3 : Int32)), .val (.ref a_INBOX), .val (.ref a_BINSENTBOX), .unset] [])
      refine own_go (fun t k => XS.iloadN X13.here hx rfl (hb hby at_24) rfl k) ?_
      show own_G p e below _ T13 (mkF m 25 #[.val (.int i0), .val (.int i1), .val (.int (0 : Int32)), .val (.int (3 : Int32)), .val (.ref a_INBOX), .val (.ref a_BINSENTBOX), .unset] [(.int (3 : Int32))])
      refine own_go (fun t k => XS.iconst X13.here hx rfl (hb hby at_25) k) ?_
      show own_G p e below _ T13 (mkF m 26 #[.val (.int i0), .val (.int i1), .val (.int (0 : Int32)), .val (.int (3 : Int32)), .val (.ref a_INBOX), .val (.ref a_BINSENTBOX), .unset] [(.int (2 : Int32)), (.int (3 : Int32))])
      refine own_go (fun t k => XS.icmpNo X13.here hx rfl (hb hby at_26) rfl (by decide) k) ?_
      show own_G p e below _ T13 (mkF m 29 #[.val (.int i0), .val (.int i1), .val (.int (0 : Int32)), .val (.int (3 : Int32)), .val (.ref a_INBOX), .val (.ref a_BINSENTBOX), .unset] [])
      refine own_go (fun t k => XS.iloadN X13.here hx rfl (hb hby at_29) rfl k) ?_
      show own_G p e below _ T13 (mkF m 30 #[.val (.int i0), .val (.int i1), .val (.int (0 : Int32)), .val (.int (3 : Int32)), .val (.ref a_INBOX), .val (.ref a_BINSENTBOX), .unset] [(.int (0 : Int32))])
      refine own_go (fun t k => XS.iconst X13.here hx rfl (hb hby at_30) k) ?_
      show own_G p e below _ T13 (mkF m 31 #[.val (.int i0), .val (.int i1), .val (.int (0 : Int32)), .val (.int (3 : Int32)), .val (.ref a_INBOX), .val (.ref a_BINSENTBOX), .unset] [(.int (2 : Int32)), (.int (0 : Int32))])
      refine own_go (fun t k => XS.icmpYes X13.here hx rfl (pc0 := 31) (pc' := 38) rfl (hb hby at_31) rfl (by decide) (by decide) (by decide) k) ?_
      show own_G p e below _ T13 (mkF m 38 #[.val (.int i0), .val (.int i1), .val (.int (0 : Int32)), .val (.int (3 : Int32)), .val (.ref a_INBOX), .val (.ref a_BINSENTBOX), .unset] [])
      refine own_go (fun t k => XS.iloadN X13.here hx rfl (hb hby at_38) rfl k) ?_
      show own_G p e below _ T13 (mkF m 39 #[.val (.int i0), .val (.int i1), .val (.int (0 : Int32)), .val (.int (3 : Int32)), .val (.ref a_INBOX), .val (.ref a_BINSENTBOX), .unset] [(.int (0 : Int32))])
      refine own_go (fun t k => XS.iconst X13.here hx rfl (hb hby at_39) k) ?_
      show own_G p e below _ T13 (mkF m 40 #[.val (.int i0), .val (.int i1), .val (.int (0 : Int32)), .val (.int (3 : Int32)), .val (.ref a_INBOX), .val (.ref a_BINSENTBOX), .unset] [(.int (1 : Int32)), (.int (0 : Int32))])
      refine own_go (fun t k => XS.icmpYes X13.here hx rfl (pc0 := 40) (pc' := 48) rfl (hb hby at_40) rfl (by decide) (by decide) (by decide) k) ?_
      show own_G p e below _ T13 (mkF m 48 #[.val (.int i0), .val (.int i1), .val (.int (0 : Int32)), .val (.int (3 : Int32)), .val (.ref a_INBOX), .val (.ref a_BINSENTBOX), .unset] [])
      refine own_go (fun t k => XS.iloadN X13.here hx rfl (hb hby at_48) rfl k) ?_
      show own_G p e below _ T13 (mkF m 49 #[.val (.int i0), .val (.int i1), .val (.int (0 : Int32)), .val (.int (3 : Int32)), .val (.ref a_INBOX), .val (.ref a_BINSENTBOX), .unset] [(.int (0 : Int32))])
      refine own_go (fun t k => XS.iconst X13.here hx rfl (hb hby at_49) k) ?_
      show own_G p e below _ T13 (mkF m 50 #[.val (.int i0), .val (.int i1), .val (.int (0 : Int32)), .val (.int (3 : Int32)), .val (.ref a_INBOX), .val (.ref a_BINSENTBOX), .unset] [(.int (3 : Int32)), (.int (0 : Int32))])
      refine own_go (fun t k => XS.icmpYes X13.here hx rfl (pc0 := 50) (pc' := 62) rfl (hb hby at_50) rfl (by decide) (by decide) (by decide) k) ?_
      show own_G p e below _ T13 (mkF m 62 #[.val (.int i0), .val (.int i1), .val (.int (0 : Int32)), .val (.int (3 : Int32)), .val (.ref a_INBOX), .val (.ref a_BINSENTBOX), .unset] [])
      refine own_go (fun t k => XS.iconst X13.here hx rfl (hb hby at_62) k) ?_
      show own_G p e below _ T13 (mkF m 63 #[.val (.int i0), .val (.int i1), .val (.int (0 : Int32)), .val (.int (3 : Int32)), .val (.ref a_INBOX), .val (.ref a_BINSENTBOX), .unset] [(.int (0 : Int32))])
      refine own_go (fun t k => XS.istore X13.here hx rfl (hb hby at_63) rfl (l' := #[.val (.int i0), .val (.int i1), .val (.int (0 : Int32)), .val (.int (3 : Int32)), .val (.ref a_INBOX), .val (.ref a_BINSENTBOX), .val (.int (0 : Int32))]) rfl k) ?_
      show own_G p e below _ T13 (mkF m 65 #[.val (.int i0), .val (.int i1), .val (.int (0 : Int32)), .val (.int (3 : Int32)), .val (.ref a_INBOX), .val (.ref a_BINSENTBOX), .val (.int (0 : Int32))] [])
      refine own_go (fun t k => XS.aload X13.here hx rfl (hb hby at_65) rfl rfl k) ?_
      show own_G p e below _ T13 (mkF m 67 #[.val (.int i0), .val (.int i1), .val (.int (0 : Int32)), .val (.int (3 : Int32)), .val (.ref a_INBOX), .val (.ref a_BINSENTBOX), .val (.int (0 : Int32))] [(.ref a_INBOX)])
      refine own_go (fun t k => XS.aload X13.here hx rfl (hb hby at_67) rfl rfl k) ?_
      show own_G p e below _ T13 (mkF m 69 #[.val (.int i0), .val (.int i1), .val (.int (0 : Int32)), .val (.int (3 : Int32)), .val (.ref a_INBOX), .val (.ref a_BINSENTBOX), .val (.int (0 : Int32))] [(.ref a_BINSENTBOX), (.ref a_INBOX)])
      obtain ⟨T14, L14, v14, X14, ⟨rfl, rfl, q14⟩, st14⟩ := own_callV X13 hx hZ (y := (⟨"com/example/willebroek/willebroek/service/mailbox/MailboxFolder", "canMoveTo", "(Lcom/example/willebroek/willebroek/service/mailbox/MailboxFolder;)Z"⟩ : MethodName)) (z := (⟨"com/example/willebroek/willebroek/service/mailbox/MailboxFolder", "canMoveTo", "(Lcom/example/willebroek/willebroek/service/mailbox/MailboxFolder;)Z"⟩ : MethodName)) hown (hw _ (List.mem_of_getElem? (i := 9) rfl)) (hw _ (List.mem_of_getElem? (i := 10) rfl)) (hw _ (List.mem_of_getElem? (i := 12) rfl)) (hw _ (List.mem_of_getElem? (i := 12) rfl)) (hw _ (List.mem_of_getElem? (i := 11) rfl)) (hw _ (List.mem_of_getElem? (i := 13) rfl)) (hw _ (List.mem_of_getElem? (i := 5) rfl)) (notFace_of_selects (args := #[]) (mvT hZ (hw _ (List.mem_of_getElem? (i := 12) rfl)))) (by decide) (c_can l Z a0 hw a_INBOX a_BINSENTBOX (0 : Int32) (1 : Int32) h0  F_INBOX_sent F_BINSENTBOX_sent) q13 E_INBOX (argsL := [(.ref a_BINSENTBOX)]) (rest := []) (g := (mkF m 69 #[.val (.int i0), .val (.int i1), .val (.int (0 : Int32)), .val (.int (3 : Int32)), .val (.ref a_INBOX), .val (.ref a_BINSENTBOX), .val (.int (0 : Int32))] [(.ref a_BINSENTBOX), (.ref a_INBOX)])) rfl (by rw [hml]; rfl) (ps := [(.object "com/example/willebroek/willebroek/service/mailbox/MailboxFolder")]) (r := (some .boolean)) (by decide +kernel) rfl rfl (W := 0) (by show 2 * 0 + _ ≤ _; exact Nat.le_of_eq rfl) (hb hby at_69) (by decide) (by decide) (by decide) (by decide)
      have N14 := Fr.app N13 (Fr.nil n0)
      refine own_go st14 ?_
      show own_G p e below _ T14 (mkF m 72 #[.val (.int i0), .val (.int i1), .val (.int (0 : Int32)), .val (.int (3 : Int32)), .val (.ref a_INBOX), .val (.ref a_BINSENTBOX), .val (.int (0 : Int32))] [(.int (own_can a_INBOX a_BINSENTBOX (0 : Int32) (1 : Int32)))])
      have r14 : (own_can a_INBOX a_BINSENTBOX (0 : Int32) (1 : Int32)) = (0 : Int32) := by unfold own_can; rw [if_neg (Fld.ne F_BINSENTBOX_ordinal F_INBOX_ordinal (own_neV (by decide))), if_neg (show ¬ ((1 : Int32) = (0 : Int32)) by decide)]; rfl
      rw [r14]
      show own_G p e below _ T14 (mkF m 72 #[.val (.int i0), .val (.int i1), .val (.int (0 : Int32)), .val (.int (3 : Int32)), .val (.ref a_INBOX), .val (.ref a_BINSENTBOX), .val (.int (0 : Int32))] [(.int (0 : Int32))])
      refine own_go (fun t k => XS.iload X14.here hx rfl (hb hby at_72) rfl k) ?_
      show own_G p e below _ T14 (mkF m 74 #[.val (.int i0), .val (.int i1), .val (.int (0 : Int32)), .val (.int (3 : Int32)), .val (.ref a_INBOX), .val (.ref a_BINSENTBOX), .val (.int (0 : Int32))] [(.int (0 : Int32)), (.int (0 : Int32))])
      refine own_go (fun t k => XS.icmpNo X14.here hx rfl (hb hby at_74) rfl (by decide) k) ?_
      show own_G p e below _ T14 (mkF m 77 #[.val (.int i0), .val (.int i1), .val (.int (0 : Int32)), .val (.int (3 : Int32)), .val (.ref a_INBOX), .val (.ref a_BINSENTBOX), .val (.int (0 : Int32))] [])
      refine own_go (fun t k => XS.iconst X14.here hx rfl (hb hby at_77) k) ?_
      show own_G p e below _ T14 (mkF m 78 #[.val (.int i0), .val (.int i1), .val (.int (0 : Int32)), .val (.int (3 : Int32)), .val (.ref a_INBOX), .val (.ref a_BINSENTBOX), .val (.int (0 : Int32))] [(.int (1 : Int32))])
      refine own_go (fun t k => XS.goto X14.here hx rfl (pc0 := 78) (pc' := 82) rfl (hb hby at_78) (by decide) (by decide) k) ?_
      show own_G p e below _ T14 (mkF m 82 #[.val (.int i0), .val (.int i1), .val (.int (0 : Int32)), .val (.int (3 : Int32)), .val (.ref a_INBOX), .val (.ref a_BINSENTBOX), .val (.int (0 : Int32))] [(.int (1 : Int32))])
      exact own_retN X14 hx hlk hret (by simp) (hb hby at_82) (by decide) (by decide) ⟨rfl, N14⟩
  · rw [hk1]
    show own_G p e below _ T0 (mkF m 3 #[.val (.int i0), .val (.int i1), .unset, .unset, .unset, .unset, .unset] [(.int (1 : Int32))])
    refine own_go (fun t k => XS.istoreN X0.here hx rfl (hb hby at_3) rfl (l' := #[.val (.int i0), .val (.int i1), .val (.int (1 : Int32)), .unset, .unset, .unset, .unset]) rfl k) ?_
    show own_G p e below _ T0 (mkF m 4 #[.val (.int i0), .val (.int i1), .val (.int (1 : Int32)), .unset, .unset, .unset, .unset] [])
    refine own_go (fun t k => XS.iloadN X0.here hx rfl (hb hby at_4) rfl k) ?_
    show own_G p e below _ T0 (mkF m 5 #[.val (.int i0), .val (.int i1), .val (.int (1 : Int32)), .unset, .unset, .unset, .unset] [(.int i1)])
    refine own_go (fun t k => XS.iconst X0.here hx rfl (hb hby at_5) k) ?_
    show own_G p e below _ T0 (mkF m 6 #[.val (.int i0), .val (.int i1), .val (.int (1 : Int32)), .unset, .unset, .unset, .unset] [(.int (3 : Int32)), (.int i1)])
    refine own_go (fun t k => XS.iand X0.here hx rfl (hb hby at_6) rfl k) ?_
    show own_G p e below _ T0 (mkF m 7 #[.val (.int i0), .val (.int i1), .val (.int (1 : Int32)), .unset, .unset, .unset, .unset] [(.int (i1 &&& (3 : Int32)))])
    rcases hf with hk15 | hk15 | hk15 | hk15
    · rw [hk15]
      show own_G p e below _ T0 (mkF m 7 #[.val (.int i0), .val (.int i1), .val (.int (1 : Int32)), .unset, .unset, .unset, .unset] [(.int (0 : Int32))])
      refine own_go (fun t k => XS.istoreN X0.here hx rfl (hb hby at_7) rfl (l' := #[.val (.int i0), .val (.int i1), .val (.int (1 : Int32)), .val (.int (0 : Int32)), .unset, .unset, .unset]) rfl k) ?_
      show own_G p e below _ T0 (mkF m 8 #[.val (.int i0), .val (.int i1), .val (.int (1 : Int32)), .val (.int (0 : Int32)), .unset, .unset, .unset] [])
      refine own_go (fun t k => XS.iloadN X0.here hx rfl (hb hby at_8) rfl k) ?_
      show own_G p e below _ T0 (mkF m 9 #[.val (.int i0), .val (.int i1), .val (.int (1 : Int32)), .val (.int (0 : Int32)), .unset, .unset, .unset] [(.int (1 : Int32))])
      obtain ⟨T16, L16, v16, X16, ⟨rfl, rfl, q16⟩, st16⟩ := own_callS X0 hx hZ (y := (⟨"com/example/willebroek/willebroek/service/mailbox/MailboxFolderCanMoveToPinLaw", "pick", "(I)Lcom/example/willebroek/willebroek/service/mailbox/MailboxFolder;"⟩ : MethodName)) hown (hw _ (List.mem_of_getElem? (i := 0) rfl)) (hw _ (List.mem_of_getElem? (i := 1) rfl)) (hw _ (List.mem_of_getElem? (i := 2) rfl)) (hw _ (List.mem_of_getElem? (i := 3) rfl)) (by decide) (c_pick l Z a0 hw a_INBOX a_BINSENTBOX a_BININBOX a_SENTBOX (1 : Int32) h0 B ) e0 (argsL := [(.int (1 : Int32))]) (rest := []) (g := (mkF m 9 #[.val (.int i0), .val (.int i1), .val (.int (1 : Int32)), .val (.int (0 : Int32)), .unset, .unset, .unset] [(.int (1 : Int32))])) rfl (by rw [hml]; rfl) (ps := [.int]) (r := (some (.object "com/example/willebroek/willebroek/service/mailbox/MailboxFolder"))) (by decide +kernel) rfl rfl (W := 0) (by show 2 * 0 + _ ≤ _; exact Nat.le_of_eq rfl) (hb hby at_9) (by decide) (by decide) (by decide) (by decide)
      have N16 := Fr.app N0 (Fr.nil n0)
      refine own_go st16 ?_
      show own_G p e below _ T16 (mkF m 12 #[.val (.int i0), .val (.int i1), .val (.int (1 : Int32)), .val (.int (0 : Int32)), .unset, .unset, .unset] [(.ref (own_pick a_INBOX a_BINSENTBOX a_BININBOX a_SENTBOX (1 : Int32)))])
      have r16 : (own_pick a_INBOX a_BINSENTBOX a_BININBOX a_SENTBOX (1 : Int32)) = a_SENTBOX := by unfold own_pick; rw [if_neg (show ¬ ((1 : Int32) = (0 : Int32)) by decide), if_pos (show ((1 : Int32) = (1 : Int32)) by decide)]
      rw [r16]
      show own_G p e below _ T16 (mkF m 12 #[.val (.int i0), .val (.int i1), .val (.int (1 : Int32)), .val (.int (0 : Int32)), .unset, .unset, .unset] [(.ref a_SENTBOX)])
      refine own_go (fun t k => XS.astore X16.here hx rfl (hb hby at_12) rfl rfl (l' := #[.val (.int i0), .val (.int i1), .val (.int (1 : Int32)), .val (.int (0 : Int32)), .val (.ref a_SENTBOX), .unset, .unset]) rfl k) ?_
      show own_G p e below _ T16 (mkF m 14 #[.val (.int i0), .val (.int i1), .val (.int (1 : Int32)), .val (.int (0 : Int32)), .val (.ref a_SENTBOX), .unset, .unset] [])
      refine own_go (fun t k => XS.iloadN X16.here hx rfl (hb hby at_14) rfl k) ?_
      show own_G p e below _ T16 (mkF m 15 #[.val (.int i0), .val (.int i1), .val (.int (1 : Int32)), .val (.int (0 : Int32)), .val (.ref a_SENTBOX), .unset, .unset] [(.int (0 : Int32))])
      obtain ⟨T17, L17, v17, X17, ⟨rfl, rfl, q17⟩, st17⟩ := own_callS X16 hx hZ (y := (⟨"com/example/willebroek/willebroek/service/mailbox/MailboxFolderCanMoveToPinLaw", "pick", "(I)Lcom/example/willebroek/willebroek/service/mailbox/MailboxFolder;"⟩ : MethodName)) hown (hw _ (List.mem_of_getElem? (i := 0) rfl)) (hw _ (List.mem_of_getElem? (i := 1) rfl)) (hw _ (List.mem_of_getElem? (i := 2) rfl)) (hw _ (List.mem_of_getElem? (i := 3) rfl)) (by decide) (c_pick l Z a0 hw a_INBOX a_BINSENTBOX a_BININBOX a_SENTBOX (0 : Int32) h0 B ) q16 (argsL := [(.int (0 : Int32))]) (rest := []) (g := (mkF m 15 #[.val (.int i0), .val (.int i1), .val (.int (1 : Int32)), .val (.int (0 : Int32)), .val (.ref a_SENTBOX), .unset, .unset] [(.int (0 : Int32))])) rfl (by rw [hml]; rfl) (ps := [.int]) (r := (some (.object "com/example/willebroek/willebroek/service/mailbox/MailboxFolder"))) (by decide +kernel) rfl rfl (W := 0) (by show 2 * 0 + _ ≤ _; exact Nat.le_of_eq rfl) (hb hby at_15) (by decide) (by decide) (by decide) (by decide)
      have N17 := Fr.app N16 (Fr.nil n0)
      refine own_go st17 ?_
      show own_G p e below _ T17 (mkF m 18 #[.val (.int i0), .val (.int i1), .val (.int (1 : Int32)), .val (.int (0 : Int32)), .val (.ref a_SENTBOX), .unset, .unset] [(.ref (own_pick a_INBOX a_BINSENTBOX a_BININBOX a_SENTBOX (0 : Int32)))])
      have r17 : (own_pick a_INBOX a_BINSENTBOX a_BININBOX a_SENTBOX (0 : Int32)) = a_INBOX := by unfold own_pick; rw [if_pos (show ((0 : Int32) = (0 : Int32)) by decide)]
      rw [r17]
      show own_G p e below _ T17 (mkF m 18 #[.val (.int i0), .val (.int i1), .val (.int (1 : Int32)), .val (.int (0 : Int32)), .val (.ref a_SENTBOX), .unset, .unset] [(.ref a_INBOX)])
      refine own_go (fun t k => XS.astore X17.here hx rfl (hb hby at_18) rfl rfl (l' := #[.val (.int i0), .val (.int i1), .val (.int (1 : Int32)), .val (.int (0 : Int32)), .val (.ref a_SENTBOX), .val (.ref a_INBOX), .unset]) rfl k) ?_
      show own_G p e below _ T17 (mkF m 20 #[.val (.int i0), .val (.int i1), .val (.int (1 : Int32)), .val (.int (0 : Int32)), .val (.ref a_SENTBOX), .val (.ref a_INBOX), .unset] [])
      refine own_go (fun t k => XS.iloadN X17.here hx rfl (hb hby at_20) rfl k) ?_
      show own_G p e below _ T17 (mkF m 21 #[.val (.int i0), .val (.int i1), .val (.int (1 : Int32)), .val (.int (0 : Int32)), .val (.ref a_SENTBOX), .val (.ref a_INBOX), .unset] [(.int (1 : Int32))])
      refine own_go (fun t k => XS.ifYes X17.here hx rfl (pc0 := 21) (pc' := 29) rfl (hb hby at_21) rfl (by decide) (by decide) (by decide) k) ?_
      show own_G p e below _ T17 (mkF m 29 #[.val (.int i0), .val (.int i1), .val (.int (1 : Int32)), .val (.int (0 : Int32)), .val (.ref a_SENTBOX), .val (.ref a_INBOX), .unset] [])
      refine own_go (fun t k => XS.iloadN X17.here hx rfl (hb hby at_29) rfl k) ?_
      show own_G p e below _ T17 (mkF m 30 #[.val (.int i0), .val (.int i1), .val (.int (1 : Int32)), .val (.int (0 : Int32)), .val (.ref a_SENTBOX), .val (.ref a_INBOX), .unset] [(.int (1 : Int32))])
      refine own_go (fun t k => XS.iconst X17.here hx rfl (hb hby at_30) k) ?_
      show own_G p e below _ T17 (mkF m 31 #[.val (.int i0), .val (.int i1), .val (.int (1 : Int32)), .val (.int (0 : Int32)), .val (.ref a_SENTBOX), .val (.ref a_INBOX), .unset] [(.int (2 : Int32)), (.int (1 : Int32))])
      refine own_go (fun t k => XS.icmpYes X17.here hx rfl (pc0 := 31) (pc' := 38) rfl (hb hby at_31) rfl (by decide) (by decide) (by decide) k) ?_
      show own_G p e below _ T17 (mkF m 38 #[.val (.int i0), .val (.int i1), .val (.int (1 : Int32)), .val (.int (0 : Int32)), .val (.ref a_SENTBOX), .val (.ref a_INBOX), .unset] [])
      refine own_go (fun t k => XS.iloadN X17.here hx rfl (hb hby at_38) rfl k) ?_
      show own_G p e below _ T17 (mkF m 39 #[.val (.int i0), .val (.int i1), .val (.int (1 : Int32)), .val (.int (0 : Int32)), .val (.ref a_SENTBOX), .val (.ref a_INBOX), .unset] [(.int (1 : Int32))])
      refine own_go (fun t k => XS.iconst X17.here hx rfl (hb hby at_39) k) ?_
      show own_G p e below _ T17 (mkF m 40 #[.val (.int i0), .val (.int i1), .val (.int (1 : Int32)), .val (.int (0 : Int32)), .val (.ref a_SENTBOX), .val (.ref a_INBOX), .unset] [(.int (1 : Int32)), (.int (1 : Int32))])
      refine own_go (fun t k => XS.icmpNo X17.here hx rfl (hb hby at_40) rfl (by decide) k) ?_
      show own_G p e below _ T17 (mkF m 43 #[.val (.int i0), .val (.int i1), .val (.int (1 : Int32)), .val (.int (0 : Int32)), .val (.ref a_SENTBOX), .val (.ref a_INBOX), .unset] [])
      refine own_go (fun t k => XS.iloadN X17.here hx rfl (hb hby at_43) rfl k) ?_
      show own_G p e below _ T17 (mkF m 44 #[.val (.int i0), .val (.int i1), .val (.int (1 : Int32)), .val (.int (0 : Int32)), .val (.ref a_SENTBOX), .val (.ref a_INBOX), .unset] [(.int (0 : Int32))])
      refine own_go (fun t k => XS.iconst X17.here hx rfl (hb hby at_44) k) ?_
      show own_G p e below _ T17 (mkF m 45 #[.val (.int i0), .val (.int i1), .val (.int (1 : Int32)), .val (.int (0 : Int32)), .val (.ref a_SENTBOX), .val (.ref a_INBOX), .unset] [(.int (3 : Int32)), (.int (0 : Int32))])
      refine own_go (fun t k => XS.icmpNo X17.here hx rfl (hb hby at_45) rfl (by decide) k) ?_
      show own_G p e below _ T17 (mkF m 48 #[.val (.int i0), .val (.int i1), .val (.int (1 : Int32)), .val (.int (0 : Int32)), .val (.ref a_SENTBOX), .val (.ref a_INBOX), .unset] [])
      refine own_go (fun t k => XS.iloadN X17.here hx rfl (hb hby at_48) rfl k) ?_
      show own_G p e below _ T17 (mkF m 49 #[.val (.int i0), .val (.int i1), .val (.int (1 : Int32)), .val (.int (0 : Int32)), .val (.ref a_SENTBOX), .val (.ref a_INBOX), .unset] [(.int (1 : Int32))])
      refine own_go (fun t k => XS.iconst X17.here hx rfl (hb hby at_49) k) ?_
      show own_G p e below _ T17 (mkF m 50 #[.val (.int i0), .val (.int i1), .val (.int (1 : Int32)), .val (.int (0 : Int32)), .val (.ref a_SENTBOX), .val (.ref a_INBOX), .unset] [(.int (3 : Int32)), (.int (1 : Int32))])
      refine own_go (fun t k => XS.icmpYes X17.here hx rfl (pc0 := 50) (pc' := 62) rfl (hb hby at_50) rfl (by decide) (by decide) (by decide) k) ?_
      show own_G p e below _ T17 (mkF m 62 #[.val (.int i0), .val (.int i1), .val (.int (1 : Int32)), .val (.int (0 : Int32)), .val (.ref a_SENTBOX), .val (.ref a_INBOX), .unset] [])
      refine own_go (fun t k => XS.iconst X17.here hx rfl (hb hby at_62) k) ?_
      show own_G p e below _ T17 (mkF m 63 #[.val (.int i0), .val (.int i1), .val (.int (1 : Int32)), .val (.int (0 : Int32)), .val (.ref a_SENTBOX), .val (.ref a_INBOX), .unset] [(.int (0 : Int32))])
      refine own_go (fun t k => XS.istore X17.here hx rfl (hb hby at_63) rfl (l' := #[.val (.int i0), .val (.int i1), .val (.int (1 : Int32)), .val (.int (0 : Int32)), .val (.ref a_SENTBOX), .val (.ref a_INBOX), .val (.int (0 : Int32))]) rfl k) ?_
      show own_G p e below _ T17 (mkF m 65 #[.val (.int i0), .val (.int i1), .val (.int (1 : Int32)), .val (.int (0 : Int32)), .val (.ref a_SENTBOX), .val (.ref a_INBOX), .val (.int (0 : Int32))] [])
      refine own_go (fun t k => XS.aload X17.here hx rfl (hb hby at_65) rfl rfl k) ?_
      show own_G p e below _ T17 (mkF m 67 #[.val (.int i0), .val (.int i1), .val (.int (1 : Int32)), .val (.int (0 : Int32)), .val (.ref a_SENTBOX), .val (.ref a_INBOX), .val (.int (0 : Int32))] [(.ref a_SENTBOX)])
      refine own_go (fun t k => XS.aload X17.here hx rfl (hb hby at_67) rfl rfl k) ?_
      show own_G p e below _ T17 (mkF m 69 #[.val (.int i0), .val (.int i1), .val (.int (1 : Int32)), .val (.int (0 : Int32)), .val (.ref a_SENTBOX), .val (.ref a_INBOX), .val (.int (0 : Int32))] [(.ref a_INBOX), (.ref a_SENTBOX)])
      obtain ⟨T18, L18, v18, X18, ⟨rfl, rfl, q18⟩, st18⟩ := own_callV X17 hx hZ (y := (⟨"com/example/willebroek/willebroek/service/mailbox/MailboxFolder", "canMoveTo", "(Lcom/example/willebroek/willebroek/service/mailbox/MailboxFolder;)Z"⟩ : MethodName)) (z := (⟨"com/example/willebroek/willebroek/service/mailbox/MailboxFolder", "canMoveTo", "(Lcom/example/willebroek/willebroek/service/mailbox/MailboxFolder;)Z"⟩ : MethodName)) hown (hw _ (List.mem_of_getElem? (i := 9) rfl)) (hw _ (List.mem_of_getElem? (i := 10) rfl)) (hw _ (List.mem_of_getElem? (i := 12) rfl)) (hw _ (List.mem_of_getElem? (i := 12) rfl)) (hw _ (List.mem_of_getElem? (i := 11) rfl)) (hw _ (List.mem_of_getElem? (i := 13) rfl)) (hw _ (List.mem_of_getElem? (i := 5) rfl)) (notFace_of_selects (args := #[]) (mvT hZ (hw _ (List.mem_of_getElem? (i := 12) rfl)))) (by decide) (c_can l Z a0 hw a_SENTBOX a_INBOX (1 : Int32) (0 : Int32) h0  F_SENTBOX_sent F_INBOX_sent) q17 E_SENTBOX (argsL := [(.ref a_INBOX)]) (rest := []) (g := (mkF m 69 #[.val (.int i0), .val (.int i1), .val (.int (1 : Int32)), .val (.int (0 : Int32)), .val (.ref a_SENTBOX), .val (.ref a_INBOX), .val (.int (0 : Int32))] [(.ref a_INBOX), (.ref a_SENTBOX)])) rfl (by rw [hml]; rfl) (ps := [(.object "com/example/willebroek/willebroek/service/mailbox/MailboxFolder")]) (r := (some .boolean)) (by decide +kernel) rfl rfl (W := 0) (by show 2 * 0 + _ ≤ _; exact Nat.le_of_eq rfl) (hb hby at_69) (by decide) (by decide) (by decide) (by decide)
      have N18 := Fr.app N17 (Fr.nil n0)
      refine own_go st18 ?_
      show own_G p e below _ T18 (mkF m 72 #[.val (.int i0), .val (.int i1), .val (.int (1 : Int32)), .val (.int (0 : Int32)), .val (.ref a_SENTBOX), .val (.ref a_INBOX), .val (.int (0 : Int32))] [(.int (own_can a_SENTBOX a_INBOX (1 : Int32) (0 : Int32)))])
      have r18 : (own_can a_SENTBOX a_INBOX (1 : Int32) (0 : Int32)) = (0 : Int32) := by unfold own_can; rw [if_neg (Fld.ne F_INBOX_ordinal F_SENTBOX_ordinal (own_neV (by decide))), if_neg (show ¬ ((0 : Int32) = (1 : Int32)) by decide)]; rfl
      rw [r18]
      show own_G p e below _ T18 (mkF m 72 #[.val (.int i0), .val (.int i1), .val (.int (1 : Int32)), .val (.int (0 : Int32)), .val (.ref a_SENTBOX), .val (.ref a_INBOX), .val (.int (0 : Int32))] [(.int (0 : Int32))])
      refine own_go (fun t k => XS.iload X18.here hx rfl (hb hby at_72) rfl k) ?_
      show own_G p e below _ T18 (mkF m 74 #[.val (.int i0), .val (.int i1), .val (.int (1 : Int32)), .val (.int (0 : Int32)), .val (.ref a_SENTBOX), .val (.ref a_INBOX), .val (.int (0 : Int32))] [(.int (0 : Int32)), (.int (0 : Int32))])
      refine own_go (fun t k => XS.icmpNo X18.here hx rfl (hb hby at_74) rfl (by decide) k) ?_
      show own_G p e below _ T18 (mkF m 77 #[.val (.int i0), .val (.int i1), .val (.int (1 : Int32)), .val (.int (0 : Int32)), .val (.ref a_SENTBOX), .val (.ref a_INBOX), .val (.int (0 : Int32))] [])
      refine own_go (fun t k => XS.iconst X18.here hx rfl (hb hby at_77) k) ?_
      show own_G p e below _ T18 (mkF m 78 #[.val (.int i0), .val (.int i1), .val (.int (1 : Int32)), .val (.int (0 : Int32)), .val (.ref a_SENTBOX), .val (.ref a_INBOX), .val (.int (0 : Int32))] [(.int (1 : Int32))])
      refine own_go (fun t k => XS.goto X18.here hx rfl (pc0 := 78) (pc' := 82) rfl (hb hby at_78) (by decide) (by decide) k) ?_
      show own_G p e below _ T18 (mkF m 82 #[.val (.int i0), .val (.int i1), .val (.int (1 : Int32)), .val (.int (0 : Int32)), .val (.ref a_SENTBOX), .val (.ref a_INBOX), .val (.int (0 : Int32))] [(.int (1 : Int32))])
      exact own_retN X18 hx hlk hret (by simp) (hb hby at_82) (by decide) (by decide) ⟨rfl, N18⟩
    · rw [hk15]
      show own_G p e below _ T0 (mkF m 7 #[.val (.int i0), .val (.int i1), .val (.int (1 : Int32)), .unset, .unset, .unset, .unset] [(.int (1 : Int32))])
      refine own_go (fun t k => XS.istoreN X0.here hx rfl (hb hby at_7) rfl (l' := #[.val (.int i0), .val (.int i1), .val (.int (1 : Int32)), .val (.int (1 : Int32)), .unset, .unset, .unset]) rfl k) ?_
      show own_G p e below _ T0 (mkF m 8 #[.val (.int i0), .val (.int i1), .val (.int (1 : Int32)), .val (.int (1 : Int32)), .unset, .unset, .unset] [])
      refine own_go (fun t k => XS.iloadN X0.here hx rfl (hb hby at_8) rfl k) ?_
      show own_G p e below _ T0 (mkF m 9 #[.val (.int i0), .val (.int i1), .val (.int (1 : Int32)), .val (.int (1 : Int32)), .unset, .unset, .unset] [(.int (1 : Int32))])
      obtain ⟨T19, L19, v19, X19, ⟨rfl, rfl, q19⟩, st19⟩ := own_callS X0 hx hZ (y := (⟨"com/example/willebroek/willebroek/service/mailbox/MailboxFolderCanMoveToPinLaw", "pick", "(I)Lcom/example/willebroek/willebroek/service/mailbox/MailboxFolder;"⟩ : MethodName)) hown (hw _ (List.mem_of_getElem? (i := 0) rfl)) (hw _ (List.mem_of_getElem? (i := 1) rfl)) (hw _ (List.mem_of_getElem? (i := 2) rfl)) (hw _ (List.mem_of_getElem? (i := 3) rfl)) (by decide) (c_pick l Z a0 hw a_INBOX a_BINSENTBOX a_BININBOX a_SENTBOX (1 : Int32) h0 B ) e0 (argsL := [(.int (1 : Int32))]) (rest := []) (g := (mkF m 9 #[.val (.int i0), .val (.int i1), .val (.int (1 : Int32)), .val (.int (1 : Int32)), .unset, .unset, .unset] [(.int (1 : Int32))])) rfl (by rw [hml]; rfl) (ps := [.int]) (r := (some (.object "com/example/willebroek/willebroek/service/mailbox/MailboxFolder"))) (by decide +kernel) rfl rfl (W := 0) (by show 2 * 0 + _ ≤ _; exact Nat.le_of_eq rfl) (hb hby at_9) (by decide) (by decide) (by decide) (by decide)
      have N19 := Fr.app N0 (Fr.nil n0)
      refine own_go st19 ?_
      show own_G p e below _ T19 (mkF m 12 #[.val (.int i0), .val (.int i1), .val (.int (1 : Int32)), .val (.int (1 : Int32)), .unset, .unset, .unset] [(.ref (own_pick a_INBOX a_BINSENTBOX a_BININBOX a_SENTBOX (1 : Int32)))])
      have r19 : (own_pick a_INBOX a_BINSENTBOX a_BININBOX a_SENTBOX (1 : Int32)) = a_SENTBOX := by unfold own_pick; rw [if_neg (show ¬ ((1 : Int32) = (0 : Int32)) by decide), if_pos (show ((1 : Int32) = (1 : Int32)) by decide)]
      rw [r19]
      show own_G p e below _ T19 (mkF m 12 #[.val (.int i0), .val (.int i1), .val (.int (1 : Int32)), .val (.int (1 : Int32)), .unset, .unset, .unset] [(.ref a_SENTBOX)])
      refine own_go (fun t k => XS.astore X19.here hx rfl (hb hby at_12) rfl rfl (l' := #[.val (.int i0), .val (.int i1), .val (.int (1 : Int32)), .val (.int (1 : Int32)), .val (.ref a_SENTBOX), .unset, .unset]) rfl k) ?_
      show own_G p e below _ T19 (mkF m 14 #[.val (.int i0), .val (.int i1), .val (.int (1 : Int32)), .val (.int (1 : Int32)), .val (.ref a_SENTBOX), .unset, .unset] [])
      refine own_go (fun t k => XS.iloadN X19.here hx rfl (hb hby at_14) rfl k) ?_
      show own_G p e below _ T19 (mkF m 15 #[.val (.int i0), .val (.int i1), .val (.int (1 : Int32)), .val (.int (1 : Int32)), .val (.ref a_SENTBOX), .unset, .unset] [(.int (1 : Int32))])
      obtain ⟨T20, L20, v20, X20, ⟨rfl, rfl, q20⟩, st20⟩ := own_callS X19 hx hZ (y := (⟨"com/example/willebroek/willebroek/service/mailbox/MailboxFolderCanMoveToPinLaw", "pick", "(I)Lcom/example/willebroek/willebroek/service/mailbox/MailboxFolder;"⟩ : MethodName)) hown (hw _ (List.mem_of_getElem? (i := 0) rfl)) (hw _ (List.mem_of_getElem? (i := 1) rfl)) (hw _ (List.mem_of_getElem? (i := 2) rfl)) (hw _ (List.mem_of_getElem? (i := 3) rfl)) (by decide) (c_pick l Z a0 hw a_INBOX a_BINSENTBOX a_BININBOX a_SENTBOX (1 : Int32) h0 B ) q19 (argsL := [(.int (1 : Int32))]) (rest := []) (g := (mkF m 15 #[.val (.int i0), .val (.int i1), .val (.int (1 : Int32)), .val (.int (1 : Int32)), .val (.ref a_SENTBOX), .unset, .unset] [(.int (1 : Int32))])) rfl (by rw [hml]; rfl) (ps := [.int]) (r := (some (.object "com/example/willebroek/willebroek/service/mailbox/MailboxFolder"))) (by decide +kernel) rfl rfl (W := 0) (by show 2 * 0 + _ ≤ _; exact Nat.le_of_eq rfl) (hb hby at_15) (by decide) (by decide) (by decide) (by decide)
      have N20 := Fr.app N19 (Fr.nil n0)
      refine own_go st20 ?_
      show own_G p e below _ T20 (mkF m 18 #[.val (.int i0), .val (.int i1), .val (.int (1 : Int32)), .val (.int (1 : Int32)), .val (.ref a_SENTBOX), .unset, .unset] [(.ref (own_pick a_INBOX a_BINSENTBOX a_BININBOX a_SENTBOX (1 : Int32)))])
      have r20 : (own_pick a_INBOX a_BINSENTBOX a_BININBOX a_SENTBOX (1 : Int32)) = a_SENTBOX := by unfold own_pick; rw [if_neg (show ¬ ((1 : Int32) = (0 : Int32)) by decide), if_pos (show ((1 : Int32) = (1 : Int32)) by decide)]
      rw [r20]
      show own_G p e below _ T20 (mkF m 18 #[.val (.int i0), .val (.int i1), .val (.int (1 : Int32)), .val (.int (1 : Int32)), .val (.ref a_SENTBOX), .unset, .unset] [(.ref a_SENTBOX)])
      refine own_go (fun t k => XS.astore X20.here hx rfl (hb hby at_18) rfl rfl (l' := #[.val (.int i0), .val (.int i1), .val (.int (1 : Int32)), .val (.int (1 : Int32)), .val (.ref a_SENTBOX), .val (.ref a_SENTBOX), .unset]) rfl k) ?_
      show own_G p e below _ T20 (mkF m 20 #[.val (.int i0), .val (.int i1), .val (.int (1 : Int32)), .val (.int (1 : Int32)), .val (.ref a_SENTBOX), .val (.ref a_SENTBOX), .unset] [])
      refine own_go (fun t k => XS.iloadN X20.here hx rfl (hb hby at_20) rfl k) ?_
      show own_G p e below _ T20 (mkF m 21 #[.val (.int i0), .val (.int i1), .val (.int (1 : Int32)), .val (.int (1 : Int32)), .val (.ref a_SENTBOX), .val (.ref a_SENTBOX), .unset] [(.int (1 : Int32))])
      refine own_go (fun t k => XS.ifYes X20.here hx rfl (pc0 := 21) (pc' := 29) rfl (hb hby at_21) rfl (by decide) (by decide) (by decide) k) ?_
      show own_G p e below _ T20 (mkF m 29 #[.val (.int i0), .val (.int i1), .val (.int (1 : Int32)), .val (.int (1 : Int32)), .val (.ref a_SENTBOX), .val (.ref a_SENTBOX), .unset] [])
      refine own_go (fun t k => XS.iloadN X20.here hx rfl (hb hby at_29) rfl k) ?_
      show own_G p e below _ T20 (mkF m 30 #[.val (.int i0), .val (.int i1), .val (.int (1 : Int32)), .val (.int (1 : Int32)), .val (.ref a_SENTBOX), .val (.ref a_SENTBOX), .unset] [(.int (1 : Int32))])
      refine own_go (fun t k => XS.iconst X20.here hx rfl (hb hby at_30) k) ?_
      show own_G p e below _ T20 (mkF m 31 #[.val (.int i0), .val (.int i1), .val (.int (1 : Int32)), .val (.int (1 : Int32)), .val (.ref a_SENTBOX), .val (.ref a_SENTBOX), .unset] [(.int (2 : Int32)), (.int (1 : Int32))])
      refine own_go (fun t k => XS.icmpYes X20.here hx rfl (pc0 := 31) (pc' := 38) rfl (hb hby at_31) rfl (by decide) (by decide) (by decide) k) ?_
      show own_G p e below _ T20 (mkF m 38 #[.val (.int i0), .val (.int i1), .val (.int (1 : Int32)), .val (.int (1 : Int32)), .val (.ref a_SENTBOX), .val (.ref a_SENTBOX), .unset] [])
      refine own_go (fun t k => XS.iloadN X20.here hx rfl (hb hby at_38) rfl k) ?_
      show own_G p e below _ T20 (mkF m 39 #[.val (.int i0), .val (.int i1), .val (.int (1 : Int32)), .val (.int (1 : Int32)), .val (.ref a_SENTBOX), .val (.ref a_SENTBOX), .unset] [(.int (1 : Int32))])
      refine own_go (fun t k => XS.iconst X20.here hx rfl (hb hby at_39) k) ?_
      show own_G p e below _ T20 (mkF m 40 #[.val (.int i0), .val (.int i1), .val (.int (1 : Int32)), .val (.int (1 : Int32)), .val (.ref a_SENTBOX), .val (.ref a_SENTBOX), .unset] [(.int (1 : Int32)), (.int (1 : Int32))])
      refine own_go (fun t k => XS.icmpNo X20.here hx rfl (hb hby at_40) rfl (by decide) k) ?_
      show own_G p e below _ T20 (mkF m 43 #[.val (.int i0), .val (.int i1), .val (.int (1 : Int32)), .val (.int (1 : Int32)), .val (.ref a_SENTBOX), .val (.ref a_SENTBOX), .unset] [])
      refine own_go (fun t k => XS.iloadN X20.here hx rfl (hb hby at_43) rfl k) ?_
      show own_G p e below _ T20 (mkF m 44 #[.val (.int i0), .val (.int i1), .val (.int (1 : Int32)), .val (.int (1 : Int32)), .val (.ref a_SENTBOX), .val (.ref a_SENTBOX), .unset] [(.int (1 : Int32))])
      refine own_go (fun t k => XS.iconst X20.here hx rfl (hb hby at_44) k) ?_
      show own_G p e below _ T20 (mkF m 45 #[.val (.int i0), .val (.int i1), .val (.int (1 : Int32)), .val (.int (1 : Int32)), .val (.ref a_SENTBOX), .val (.ref a_SENTBOX), .unset] [(.int (3 : Int32)), (.int (1 : Int32))])
      refine own_go (fun t k => XS.icmpNo X20.here hx rfl (hb hby at_45) rfl (by decide) k) ?_
      show own_G p e below _ T20 (mkF m 48 #[.val (.int i0), .val (.int i1), .val (.int (1 : Int32)), .val (.int (1 : Int32)), .val (.ref a_SENTBOX), .val (.ref a_SENTBOX), .unset] [])
      refine own_go (fun t k => XS.iloadN X20.here hx rfl (hb hby at_48) rfl k) ?_
      show own_G p e below _ T20 (mkF m 49 #[.val (.int i0), .val (.int i1), .val (.int (1 : Int32)), .val (.int (1 : Int32)), .val (.ref a_SENTBOX), .val (.ref a_SENTBOX), .unset] [(.int (1 : Int32))])
      refine own_go (fun t k => XS.iconst X20.here hx rfl (hb hby at_49) k) ?_
      show own_G p e below _ T20 (mkF m 50 #[.val (.int i0), .val (.int i1), .val (.int (1 : Int32)), .val (.int (1 : Int32)), .val (.ref a_SENTBOX), .val (.ref a_SENTBOX), .unset] [(.int (3 : Int32)), (.int (1 : Int32))])
      refine own_go (fun t k => XS.icmpYes X20.here hx rfl (pc0 := 50) (pc' := 62) rfl (hb hby at_50) rfl (by decide) (by decide) (by decide) k) ?_
      show own_G p e below _ T20 (mkF m 62 #[.val (.int i0), .val (.int i1), .val (.int (1 : Int32)), .val (.int (1 : Int32)), .val (.ref a_SENTBOX), .val (.ref a_SENTBOX), .unset] [])
      refine own_go (fun t k => XS.iconst X20.here hx rfl (hb hby at_62) k) ?_
      show own_G p e below _ T20 (mkF m 63 #[.val (.int i0), .val (.int i1), .val (.int (1 : Int32)), .val (.int (1 : Int32)), .val (.ref a_SENTBOX), .val (.ref a_SENTBOX), .unset] [(.int (0 : Int32))])
      refine own_go (fun t k => XS.istore X20.here hx rfl (hb hby at_63) rfl (l' := #[.val (.int i0), .val (.int i1), .val (.int (1 : Int32)), .val (.int (1 : Int32)), .val (.ref a_SENTBOX), .val (.ref a_SENTBOX), .val (.int (0 : Int32))]) rfl k) ?_
      show own_G p e below _ T20 (mkF m 65 #[.val (.int i0), .val (.int i1), .val (.int (1 : Int32)), .val (.int (1 : Int32)), .val (.ref a_SENTBOX), .val (.ref a_SENTBOX), .val (.int (0 : Int32))] [])
      refine own_go (fun t k => XS.aload X20.here hx rfl (hb hby at_65) rfl rfl k) ?_
      show own_G p e below _ T20 (mkF m 67 #[.val (.int i0), .val (.int i1), .val (.int (1 : Int32)), .val (.int (1 : Int32)), .val (.ref a_SENTBOX), .val (.ref a_SENTBOX), .val (.int (0 : Int32))] [(.ref a_SENTBOX)])
      refine own_go (fun t k => XS.aload X20.here hx rfl (hb hby at_67) rfl rfl k) ?_
      show own_G p e below _ T20 (mkF m 69 #[.val (.int i0), .val (.int i1), .val (.int (1 : Int32)), .val (.int (1 : Int32)), .val (.ref a_SENTBOX), .val (.ref a_SENTBOX), .val (.int (0 : Int32))] [(.ref a_SENTBOX), (.ref a_SENTBOX)])
      obtain ⟨T21, L21, v21, X21, ⟨rfl, rfl, q21⟩, st21⟩ := own_callV X20 hx hZ (y := (⟨"com/example/willebroek/willebroek/service/mailbox/MailboxFolder", "canMoveTo", "(Lcom/example/willebroek/willebroek/service/mailbox/MailboxFolder;)Z"⟩ : MethodName)) (z := (⟨"com/example/willebroek/willebroek/service/mailbox/MailboxFolder", "canMoveTo", "(Lcom/example/willebroek/willebroek/service/mailbox/MailboxFolder;)Z"⟩ : MethodName)) hown (hw _ (List.mem_of_getElem? (i := 9) rfl)) (hw _ (List.mem_of_getElem? (i := 10) rfl)) (hw _ (List.mem_of_getElem? (i := 12) rfl)) (hw _ (List.mem_of_getElem? (i := 12) rfl)) (hw _ (List.mem_of_getElem? (i := 11) rfl)) (hw _ (List.mem_of_getElem? (i := 13) rfl)) (hw _ (List.mem_of_getElem? (i := 5) rfl)) (notFace_of_selects (args := #[]) (mvT hZ (hw _ (List.mem_of_getElem? (i := 12) rfl)))) (by decide) (c_can l Z a0 hw a_SENTBOX a_SENTBOX (1 : Int32) (1 : Int32) h0  F_SENTBOX_sent F_SENTBOX_sent) q20 E_SENTBOX (argsL := [(.ref a_SENTBOX)]) (rest := []) (g := (mkF m 69 #[.val (.int i0), .val (.int i1), .val (.int (1 : Int32)), .val (.int (1 : Int32)), .val (.ref a_SENTBOX), .val (.ref a_SENTBOX), .val (.int (0 : Int32))] [(.ref a_SENTBOX), (.ref a_SENTBOX)])) rfl (by rw [hml]; rfl) (ps := [(.object "com/example/willebroek/willebroek/service/mailbox/MailboxFolder")]) (r := (some .boolean)) (by decide +kernel) rfl rfl (W := 0) (by show 2 * 0 + _ ≤ _; exact Nat.le_of_eq rfl) (hb hby at_69) (by decide) (by decide) (by decide) (by decide)
      have N21 := Fr.app N20 (Fr.nil n0)
      refine own_go st21 ?_
      show own_G p e below _ T21 (mkF m 72 #[.val (.int i0), .val (.int i1), .val (.int (1 : Int32)), .val (.int (1 : Int32)), .val (.ref a_SENTBOX), .val (.ref a_SENTBOX), .val (.int (0 : Int32))] [(.int (own_can a_SENTBOX a_SENTBOX (1 : Int32) (1 : Int32)))])
      have r21 : (own_can a_SENTBOX a_SENTBOX (1 : Int32) (1 : Int32)) = (0 : Int32) := by unfold own_can; rw [if_pos (rfl : a_SENTBOX = a_SENTBOX)]; rfl
      rw [r21]
      show own_G p e below _ T21 (mkF m 72 #[.val (.int i0), .val (.int i1), .val (.int (1 : Int32)), .val (.int (1 : Int32)), .val (.ref a_SENTBOX), .val (.ref a_SENTBOX), .val (.int (0 : Int32))] [(.int (0 : Int32))])
      refine own_go (fun t k => XS.iload X21.here hx rfl (hb hby at_72) rfl k) ?_
      show own_G p e below _ T21 (mkF m 74 #[.val (.int i0), .val (.int i1), .val (.int (1 : Int32)), .val (.int (1 : Int32)), .val (.ref a_SENTBOX), .val (.ref a_SENTBOX), .val (.int (0 : Int32))] [(.int (0 : Int32)), (.int (0 : Int32))])
      refine own_go (fun t k => XS.icmpNo X21.here hx rfl (hb hby at_74) rfl (by decide) k) ?_
      show own_G p e below _ T21 (mkF m 77 #[.val (.int i0), .val (.int i1), .val (.int (1 : Int32)), .val (.int (1 : Int32)), .val (.ref a_SENTBOX), .val (.ref a_SENTBOX), .val (.int (0 : Int32))] [])
      refine own_go (fun t k => XS.iconst X21.here hx rfl (hb hby at_77) k) ?_
      show own_G p e below _ T21 (mkF m 78 #[.val (.int i0), .val (.int i1), .val (.int (1 : Int32)), .val (.int (1 : Int32)), .val (.ref a_SENTBOX), .val (.ref a_SENTBOX), .val (.int (0 : Int32))] [(.int (1 : Int32))])
      refine own_go (fun t k => XS.goto X21.here hx rfl (pc0 := 78) (pc' := 82) rfl (hb hby at_78) (by decide) (by decide) k) ?_
      show own_G p e below _ T21 (mkF m 82 #[.val (.int i0), .val (.int i1), .val (.int (1 : Int32)), .val (.int (1 : Int32)), .val (.ref a_SENTBOX), .val (.ref a_SENTBOX), .val (.int (0 : Int32))] [(.int (1 : Int32))])
      exact own_retN X21 hx hlk hret (by simp) (hb hby at_82) (by decide) (by decide) ⟨rfl, N21⟩
    · rw [hk15]
      show own_G p e below _ T0 (mkF m 7 #[.val (.int i0), .val (.int i1), .val (.int (1 : Int32)), .unset, .unset, .unset, .unset] [(.int (2 : Int32))])
      refine own_go (fun t k => XS.istoreN X0.here hx rfl (hb hby at_7) rfl (l' := #[.val (.int i0), .val (.int i1), .val (.int (1 : Int32)), .val (.int (2 : Int32)), .unset, .unset, .unset]) rfl k) ?_
      show own_G p e below _ T0 (mkF m 8 #[.val (.int i0), .val (.int i1), .val (.int (1 : Int32)), .val (.int (2 : Int32)), .unset, .unset, .unset] [])
      refine own_go (fun t k => XS.iloadN X0.here hx rfl (hb hby at_8) rfl k) ?_
      show own_G p e below _ T0 (mkF m 9 #[.val (.int i0), .val (.int i1), .val (.int (1 : Int32)), .val (.int (2 : Int32)), .unset, .unset, .unset] [(.int (1 : Int32))])
      obtain ⟨T22, L22, v22, X22, ⟨rfl, rfl, q22⟩, st22⟩ := own_callS X0 hx hZ (y := (⟨"com/example/willebroek/willebroek/service/mailbox/MailboxFolderCanMoveToPinLaw", "pick", "(I)Lcom/example/willebroek/willebroek/service/mailbox/MailboxFolder;"⟩ : MethodName)) hown (hw _ (List.mem_of_getElem? (i := 0) rfl)) (hw _ (List.mem_of_getElem? (i := 1) rfl)) (hw _ (List.mem_of_getElem? (i := 2) rfl)) (hw _ (List.mem_of_getElem? (i := 3) rfl)) (by decide) (c_pick l Z a0 hw a_INBOX a_BINSENTBOX a_BININBOX a_SENTBOX (1 : Int32) h0 B ) e0 (argsL := [(.int (1 : Int32))]) (rest := []) (g := (mkF m 9 #[.val (.int i0), .val (.int i1), .val (.int (1 : Int32)), .val (.int (2 : Int32)), .unset, .unset, .unset] [(.int (1 : Int32))])) rfl (by rw [hml]; rfl) (ps := [.int]) (r := (some (.object "com/example/willebroek/willebroek/service/mailbox/MailboxFolder"))) (by decide +kernel) rfl rfl (W := 0) (by show 2 * 0 + _ ≤ _; exact Nat.le_of_eq rfl) (hb hby at_9) (by decide) (by decide) (by decide) (by decide)
      have N22 := Fr.app N0 (Fr.nil n0)
      refine own_go st22 ?_
      show own_G p e below _ T22 (mkF m 12 #[.val (.int i0), .val (.int i1), .val (.int (1 : Int32)), .val (.int (2 : Int32)), .unset, .unset, .unset] [(.ref (own_pick a_INBOX a_BINSENTBOX a_BININBOX a_SENTBOX (1 : Int32)))])
      have r22 : (own_pick a_INBOX a_BINSENTBOX a_BININBOX a_SENTBOX (1 : Int32)) = a_SENTBOX := by unfold own_pick; rw [if_neg (show ¬ ((1 : Int32) = (0 : Int32)) by decide), if_pos (show ((1 : Int32) = (1 : Int32)) by decide)]
      rw [r22]
      show own_G p e below _ T22 (mkF m 12 #[.val (.int i0), .val (.int i1), .val (.int (1 : Int32)), .val (.int (2 : Int32)), .unset, .unset, .unset] [(.ref a_SENTBOX)])
      refine own_go (fun t k => XS.astore X22.here hx rfl (hb hby at_12) rfl rfl (l' := #[.val (.int i0), .val (.int i1), .val (.int (1 : Int32)), .val (.int (2 : Int32)), .val (.ref a_SENTBOX), .unset, .unset]) rfl k) ?_
      show own_G p e below _ T22 (mkF m 14 #[.val (.int i0), .val (.int i1), .val (.int (1 : Int32)), .val (.int (2 : Int32)), .val (.ref a_SENTBOX), .unset, .unset] [])
      refine own_go (fun t k => XS.iloadN X22.here hx rfl (hb hby at_14) rfl k) ?_
      show own_G p e below _ T22 (mkF m 15 #[.val (.int i0), .val (.int i1), .val (.int (1 : Int32)), .val (.int (2 : Int32)), .val (.ref a_SENTBOX), .unset, .unset] [(.int (2 : Int32))])
      obtain ⟨T23, L23, v23, X23, ⟨rfl, rfl, q23⟩, st23⟩ := own_callS X22 hx hZ (y := (⟨"com/example/willebroek/willebroek/service/mailbox/MailboxFolderCanMoveToPinLaw", "pick", "(I)Lcom/example/willebroek/willebroek/service/mailbox/MailboxFolder;"⟩ : MethodName)) hown (hw _ (List.mem_of_getElem? (i := 0) rfl)) (hw _ (List.mem_of_getElem? (i := 1) rfl)) (hw _ (List.mem_of_getElem? (i := 2) rfl)) (hw _ (List.mem_of_getElem? (i := 3) rfl)) (by decide) (c_pick l Z a0 hw a_INBOX a_BINSENTBOX a_BININBOX a_SENTBOX (2 : Int32) h0 B ) q22 (argsL := [(.int (2 : Int32))]) (rest := []) (g := (mkF m 15 #[.val (.int i0), .val (.int i1), .val (.int (1 : Int32)), .val (.int (2 : Int32)), .val (.ref a_SENTBOX), .unset, .unset] [(.int (2 : Int32))])) rfl (by rw [hml]; rfl) (ps := [.int]) (r := (some (.object "com/example/willebroek/willebroek/service/mailbox/MailboxFolder"))) (by decide +kernel) rfl rfl (W := 0) (by show 2 * 0 + _ ≤ _; exact Nat.le_of_eq rfl) (hb hby at_15) (by decide) (by decide) (by decide) (by decide)
      have N23 := Fr.app N22 (Fr.nil n0)
      refine own_go st23 ?_
      show own_G p e below _ T23 (mkF m 18 #[.val (.int i0), .val (.int i1), .val (.int (1 : Int32)), .val (.int (2 : Int32)), .val (.ref a_SENTBOX), .unset, .unset] [(.ref (own_pick a_INBOX a_BINSENTBOX a_BININBOX a_SENTBOX (2 : Int32)))])
      have r23 : (own_pick a_INBOX a_BINSENTBOX a_BININBOX a_SENTBOX (2 : Int32)) = a_BININBOX := by unfold own_pick; rw [if_neg (show ¬ ((2 : Int32) = (0 : Int32)) by decide), if_neg (show ¬ ((2 : Int32) = (1 : Int32)) by decide), if_pos (show ((2 : Int32) = (2 : Int32)) by decide)]
      rw [r23]
      show own_G p e below _ T23 (mkF m 18 #[.val (.int i0), .val (.int i1), .val (.int (1 : Int32)), .val (.int (2 : Int32)), .val (.ref a_SENTBOX), .unset, .unset] [(.ref a_BININBOX)])
      refine own_go (fun t k => XS.astore X23.here hx rfl (hb hby at_18) rfl rfl (l' := #[.val (.int i0), .val (.int i1), .val (.int (1 : Int32)), .val (.int (2 : Int32)), .val (.ref a_SENTBOX), .val (.ref a_BININBOX), .unset]) rfl k) ?_
      show own_G p e below _ T23 (mkF m 20 #[.val (.int i0), .val (.int i1), .val (.int (1 : Int32)), .val (.int (2 : Int32)), .val (.ref a_SENTBOX), .val (.ref a_BININBOX), .unset] [])
      refine own_go (fun t k => XS.iloadN X23.here hx rfl (hb hby at_20) rfl k) ?_
      show own_G p e below _ T23 (mkF m 21 #[.val (.int i0), .val (.int i1), .val (.int (1 : Int32)), .val (.int (2 : Int32)), .val (.ref a_SENTBOX), .val (.ref a_BININBOX), .unset] [(.int (1 : Int32))])
      refine own_go (fun t k => XS.ifYes X23.here hx rfl (pc0 := 21) (pc' := 29) rfl (hb hby at_21) rfl (by decide) (by decide) (by decide) k) ?_
      show own_G p e below _ T23 (mkF m 29 #[.val (.int i0), .val (.int i1), .val (.int (1 : Int32)), .val (.int (2 : Int32)), .val (.ref a_SENTBOX), .val (.ref a_BININBOX), .unset] [])
      refine own_go (fun t k => XS.iloadN X23.here hx rfl (hb hby at_29) rfl k) ?_
      show own_G p e below _ T23 (mkF m 30 #[.val (.int i0), .val (.int i1), .val (.int (1 : Int32)), .val (.int (2 : Int32)), .val (.ref a_SENTBOX), .val (.ref a_BININBOX), .unset] [(.int (1 : Int32))])
      refine own_go (fun t k => XS.iconst X23.here hx rfl (hb hby at_30) k) ?_
      show own_G p e below _ T23 (mkF m 31 #[.val (.int i0), .val (.int i1), .val (.int (1 : Int32)), .val (.int (2 : Int32)), .val (.ref a_SENTBOX), .val (.ref a_BININBOX), .unset] [(.int (2 : Int32)), (.int (1 : Int32))])
      refine own_go (fun t k => XS.icmpYes X23.here hx rfl (pc0 := 31) (pc' := 38) rfl (hb hby at_31) rfl (by decide) (by decide) (by decide) k) ?_
      show own_G p e below _ T23 (mkF m 38 #[.val (.int i0), .val (.int i1), .val (.int (1 : Int32)), .val (.int (2 : Int32)), .val (.ref a_SENTBOX), .val (.ref a_BININBOX), .unset] [])
      refine own_go (fun t k => XS.iloadN X23.here hx rfl (hb hby at_38) rfl k) ?_
      show own_G p e below _ T23 (mkF m 39 #[.val (.int i0), .val (.int i1), .val (.int (1 : Int32)), .val (.int (2 : Int32)), .val (.ref a_SENTBOX), .val (.ref a_BININBOX), .unset] [(.int (1 : Int32))])
      refine own_go (fun t k => XS.iconst X23.here hx rfl (hb hby at_39) k) ?_
      show own_G p e below _ T23 (mkF m 40 #[.val (.int i0), .val (.int i1), .val (.int (1 : Int32)), .val (.int (2 : Int32)), .val (.ref a_SENTBOX), .val (.ref a_BININBOX), .unset] [(.int (1 : Int32)), (.int (1 : Int32))])
      refine own_go (fun t k => XS.icmpNo X23.here hx rfl (hb hby at_40) rfl (by decide) k) ?_
      show own_G p e below _ T23 (mkF m 43 #[.val (.int i0), .val (.int i1), .val (.int (1 : Int32)), .val (.int (2 : Int32)), .val (.ref a_SENTBOX), .val (.ref a_BININBOX), .unset] [])
      refine own_go (fun t k => XS.iloadN X23.here hx rfl (hb hby at_43) rfl k) ?_
      show own_G p e below _ T23 (mkF m 44 #[.val (.int i0), .val (.int i1), .val (.int (1 : Int32)), .val (.int (2 : Int32)), .val (.ref a_SENTBOX), .val (.ref a_BININBOX), .unset] [(.int (2 : Int32))])
      refine own_go (fun t k => XS.iconst X23.here hx rfl (hb hby at_44) k) ?_
      show own_G p e below _ T23 (mkF m 45 #[.val (.int i0), .val (.int i1), .val (.int (1 : Int32)), .val (.int (2 : Int32)), .val (.ref a_SENTBOX), .val (.ref a_BININBOX), .unset] [(.int (3 : Int32)), (.int (2 : Int32))])
      refine own_go (fun t k => XS.icmpNo X23.here hx rfl (hb hby at_45) rfl (by decide) k) ?_
      show own_G p e below _ T23 (mkF m 48 #[.val (.int i0), .val (.int i1), .val (.int (1 : Int32)), .val (.int (2 : Int32)), .val (.ref a_SENTBOX), .val (.ref a_BININBOX), .unset] [])
      refine own_go (fun t k => XS.iloadN X23.here hx rfl (hb hby at_48) rfl k) ?_
      show own_G p e below _ T23 (mkF m 49 #[.val (.int i0), .val (.int i1), .val (.int (1 : Int32)), .val (.int (2 : Int32)), .val (.ref a_SENTBOX), .val (.ref a_BININBOX), .unset] [(.int (1 : Int32))])
      refine own_go (fun t k => XS.iconst X23.here hx rfl (hb hby at_49) k) ?_
      show own_G p e below _ T23 (mkF m 50 #[.val (.int i0), .val (.int i1), .val (.int (1 : Int32)), .val (.int (2 : Int32)), .val (.ref a_SENTBOX), .val (.ref a_BININBOX), .unset] [(.int (3 : Int32)), (.int (1 : Int32))])
      refine own_go (fun t k => XS.icmpYes X23.here hx rfl (pc0 := 50) (pc' := 62) rfl (hb hby at_50) rfl (by decide) (by decide) (by decide) k) ?_
      show own_G p e below _ T23 (mkF m 62 #[.val (.int i0), .val (.int i1), .val (.int (1 : Int32)), .val (.int (2 : Int32)), .val (.ref a_SENTBOX), .val (.ref a_BININBOX), .unset] [])
      refine own_go (fun t k => XS.iconst X23.here hx rfl (hb hby at_62) k) ?_
      show own_G p e below _ T23 (mkF m 63 #[.val (.int i0), .val (.int i1), .val (.int (1 : Int32)), .val (.int (2 : Int32)), .val (.ref a_SENTBOX), .val (.ref a_BININBOX), .unset] [(.int (0 : Int32))])
      refine own_go (fun t k => XS.istore X23.here hx rfl (hb hby at_63) rfl (l' := #[.val (.int i0), .val (.int i1), .val (.int (1 : Int32)), .val (.int (2 : Int32)), .val (.ref a_SENTBOX), .val (.ref a_BININBOX), .val (.int (0 : Int32))]) rfl k) ?_
      show own_G p e below _ T23 (mkF m 65 #[.val (.int i0), .val (.int i1), .val (.int (1 : Int32)), .val (.int (2 : Int32)), .val (.ref a_SENTBOX), .val (.ref a_BININBOX), .val (.int (0 : Int32))] [])
      refine own_go (fun t k => XS.aload X23.here hx rfl (hb hby at_65) rfl rfl k) ?_
      show own_G p e below _ T23 (mkF m 67 #[.val (.int i0), .val (.int i1), .val (.int (1 : Int32)), .val (.int (2 : Int32)), .val (.ref a_SENTBOX), .val (.ref a_BININBOX), .val (.int (0 : Int32))] [(.ref a_SENTBOX)])
      refine own_go (fun t k => XS.aload X23.here hx rfl (hb hby at_67) rfl rfl k) ?_
      show own_G p e below _ T23 (mkF m 69 #[.val (.int i0), .val (.int i1), .val (.int (1 : Int32)), .val (.int (2 : Int32)), .val (.ref a_SENTBOX), .val (.ref a_BININBOX), .val (.int (0 : Int32))] [(.ref a_BININBOX), (.ref a_SENTBOX)])
      obtain ⟨T24, L24, v24, X24, ⟨rfl, rfl, q24⟩, st24⟩ := own_callV X23 hx hZ (y := (⟨"com/example/willebroek/willebroek/service/mailbox/MailboxFolder", "canMoveTo", "(Lcom/example/willebroek/willebroek/service/mailbox/MailboxFolder;)Z"⟩ : MethodName)) (z := (⟨"com/example/willebroek/willebroek/service/mailbox/MailboxFolder", "canMoveTo", "(Lcom/example/willebroek/willebroek/service/mailbox/MailboxFolder;)Z"⟩ : MethodName)) hown (hw _ (List.mem_of_getElem? (i := 9) rfl)) (hw _ (List.mem_of_getElem? (i := 10) rfl)) (hw _ (List.mem_of_getElem? (i := 12) rfl)) (hw _ (List.mem_of_getElem? (i := 12) rfl)) (hw _ (List.mem_of_getElem? (i := 11) rfl)) (hw _ (List.mem_of_getElem? (i := 13) rfl)) (hw _ (List.mem_of_getElem? (i := 5) rfl)) (notFace_of_selects (args := #[]) (mvT hZ (hw _ (List.mem_of_getElem? (i := 12) rfl)))) (by decide) (c_can l Z a0 hw a_SENTBOX a_BININBOX (1 : Int32) (0 : Int32) h0  F_SENTBOX_sent F_BININBOX_sent) q23 E_SENTBOX (argsL := [(.ref a_BININBOX)]) (rest := []) (g := (mkF m 69 #[.val (.int i0), .val (.int i1), .val (.int (1 : Int32)), .val (.int (2 : Int32)), .val (.ref a_SENTBOX), .val (.ref a_BININBOX), .val (.int (0 : Int32))] [(.ref a_BININBOX), (.ref a_SENTBOX)])) rfl (by rw [hml]; rfl) (ps := [(.object "com/example/willebroek/willebroek/service/mailbox/MailboxFolder")]) (r := (some .boolean)) (by decide +kernel) rfl rfl (W := 0) (by show 2 * 0 + _ ≤ _; exact Nat.le_of_eq rfl) (hb hby at_69) (by decide) (by decide) (by decide) (by decide)
      have N24 := Fr.app N23 (Fr.nil n0)
      refine own_go st24 ?_
      show own_G p e below _ T24 (mkF m 72 #[.val (.int i0), .val (.int i1), .val (.int (1 : Int32)), .val (.int (2 : Int32)), .val (.ref a_SENTBOX), .val (.ref a_BININBOX), .val (.int (0 : Int32))] [(.int (own_can a_SENTBOX a_BININBOX (1 : Int32) (0 : Int32)))])
      have r24 : (own_can a_SENTBOX a_BININBOX (1 : Int32) (0 : Int32)) = (0 : Int32) := by unfold own_can; rw [if_neg (Fld.ne F_BININBOX_ordinal F_SENTBOX_ordinal (own_neV (by decide))), if_neg (show ¬ ((0 : Int32) = (1 : Int32)) by decide)]; rfl
      rw [r24]
      show own_G p e below _ T24 (mkF m 72 #[.val (.int i0), .val (.int i1), .val (.int (1 : Int32)), .val (.int (2 : Int32)), .val (.ref a_SENTBOX), .val (.ref a_BININBOX), .val (.int (0 : Int32))] [(.int (0 : Int32))])
      refine own_go (fun t k => XS.iload X24.here hx rfl (hb hby at_72) rfl k) ?_
      show own_G p e below _ T24 (mkF m 74 #[.val (.int i0), .val (.int i1), .val (.int (1 : Int32)), .val (.int (2 : Int32)), .val (.ref a_SENTBOX), .val (.ref a_BININBOX), .val (.int (0 : Int32))] [(.int (0 : Int32)), (.int (0 : Int32))])
      refine own_go (fun t k => XS.icmpNo X24.here hx rfl (hb hby at_74) rfl (by decide) k) ?_
      show own_G p e below _ T24 (mkF m 77 #[.val (.int i0), .val (.int i1), .val (.int (1 : Int32)), .val (.int (2 : Int32)), .val (.ref a_SENTBOX), .val (.ref a_BININBOX), .val (.int (0 : Int32))] [])
      refine own_go (fun t k => XS.iconst X24.here hx rfl (hb hby at_77) k) ?_
      show own_G p e below _ T24 (mkF m 78 #[.val (.int i0), .val (.int i1), .val (.int (1 : Int32)), .val (.int (2 : Int32)), .val (.ref a_SENTBOX), .val (.ref a_BININBOX), .val (.int (0 : Int32))] [(.int (1 : Int32))])
      refine own_go (fun t k => XS.goto X24.here hx rfl (pc0 := 78) (pc' := 82) rfl (hb hby at_78) (by decide) (by decide) k) ?_
      show own_G p e below _ T24 (mkF m 82 #[.val (.int i0), .val (.int i1), .val (.int (1 : Int32)), .val (.int (2 : Int32)), .val (.ref a_SENTBOX), .val (.ref a_BININBOX), .val (.int (0 : Int32))] [(.int (1 : Int32))])
      exact own_retN X24 hx hlk hret (by simp) (hb hby at_82) (by decide) (by decide) ⟨rfl, N24⟩
    · rw [hk15]
      show own_G p e below _ T0 (mkF m 7 #[.val (.int i0), .val (.int i1), .val (.int (1 : Int32)), .unset, .unset, .unset, .unset] [(.int (3 : Int32))])
      refine own_go (fun t k => XS.istoreN X0.here hx rfl (hb hby at_7) rfl (l' := #[.val (.int i0), .val (.int i1), .val (.int (1 : Int32)), .val (.int (3 : Int32)), .unset, .unset, .unset]) rfl k) ?_
      show own_G p e below _ T0 (mkF m 8 #[.val (.int i0), .val (.int i1), .val (.int (1 : Int32)), .val (.int (3 : Int32)), .unset, .unset, .unset] [])
      refine own_go (fun t k => XS.iloadN X0.here hx rfl (hb hby at_8) rfl k) ?_
      show own_G p e below _ T0 (mkF m 9 #[.val (.int i0), .val (.int i1), .val (.int (1 : Int32)), .val (.int (3 : Int32)), .unset, .unset, .unset] [(.int (1 : Int32))])
      obtain ⟨T25, L25, v25, X25, ⟨rfl, rfl, q25⟩, st25⟩ := own_callS X0 hx hZ (y := (⟨"com/example/willebroek/willebroek/service/mailbox/MailboxFolderCanMoveToPinLaw", "pick", "(I)Lcom/example/willebroek/willebroek/service/mailbox/MailboxFolder;"⟩ : MethodName)) hown (hw _ (List.mem_of_getElem? (i := 0) rfl)) (hw _ (List.mem_of_getElem? (i := 1) rfl)) (hw _ (List.mem_of_getElem? (i := 2) rfl)) (hw _ (List.mem_of_getElem? (i := 3) rfl)) (by decide) (c_pick l Z a0 hw a_INBOX a_BINSENTBOX a_BININBOX a_SENTBOX (1 : Int32) h0 B ) e0 (argsL := [(.int (1 : Int32))]) (rest := []) (g := (mkF m 9 #[.val (.int i0), .val (.int i1), .val (.int (1 : Int32)), .val (.int (3 : Int32)), .unset, .unset, .unset] [(.int (1 : Int32))])) rfl (by rw [hml]; rfl) (ps := [.int]) (r := (some (.object "com/example/willebroek/willebroek/service/mailbox/MailboxFolder"))) (by decide +kernel) rfl rfl (W := 0) (by show 2 * 0 + _ ≤ _; exact Nat.le_of_eq rfl) (hb hby at_9) (by decide) (by decide) (by decide) (by decide)
      have N25 := Fr.app N0 (Fr.nil n0)
      refine own_go st25 ?_
      show own_G p e below _ T25 (mkF m 12 #[.val (.int i0), .val (.int i1), .val (.int (1 : Int32)), .val (.int (3 : Int32)), .unset, .unset, .unset] [(.ref (own_pick a_INBOX a_BINSENTBOX a_BININBOX a_SENTBOX (1 : Int32)))])
      have r25 : (own_pick a_INBOX a_BINSENTBOX a_BININBOX a_SENTBOX (1 : Int32)) = a_SENTBOX := by unfold own_pick; rw [if_neg (show ¬ ((1 : Int32) = (0 : Int32)) by decide), if_pos (show ((1 : Int32) = (1 : Int32)) by decide)]
      rw [r25]
      show own_G p e below _ T25 (mkF m 12 #[.val (.int i0), .val (.int i1), .val (.int (1 : Int32)), .val (.int (3 : Int32)), .unset, .unset, .unset] [(.ref a_SENTBOX)])
      refine own_go (fun t k => XS.astore X25.here hx rfl (hb hby at_12) rfl rfl (l' := #[.val (.int i0), .val (.int i1), .val (.int (1 : Int32)), .val (.int (3 : Int32)), .val (.ref a_SENTBOX), .unset, .unset]) rfl k) ?_
      show own_G p e below _ T25 (mkF m 14 #[.val (.int i0), .val (.int i1), .val (.int (1 : Int32)), .val (.int (3 : Int32)), .val (.ref a_SENTBOX), .unset, .unset] [])
      refine own_go (fun t k => XS.iloadN X25.here hx rfl (hb hby at_14) rfl k) ?_
      show own_G p e below _ T25 (mkF m 15 #[.val (.int i0), .val (.int i1), .val (.int (1 : Int32)), .val (.int (3 : Int32)), .val (.ref a_SENTBOX), .unset, .unset] [(.int (3 : Int32))])
      obtain ⟨T26, L26, v26, X26, ⟨rfl, rfl, q26⟩, st26⟩ := own_callS X25 hx hZ (y := (⟨"com/example/willebroek/willebroek/service/mailbox/MailboxFolderCanMoveToPinLaw", "pick", "(I)Lcom/example/willebroek/willebroek/service/mailbox/MailboxFolder;"⟩ : MethodName)) hown (hw _ (List.mem_of_getElem? (i := 0) rfl)) (hw _ (List.mem_of_getElem? (i := 1) rfl)) (hw _ (List.mem_of_getElem? (i := 2) rfl)) (hw _ (List.mem_of_getElem? (i := 3) rfl)) (by decide) (c_pick l Z a0 hw a_INBOX a_BINSENTBOX a_BININBOX a_SENTBOX (3 : Int32) h0 B ) q25 (argsL := [(.int (3 : Int32))]) (rest := []) (g := (mkF m 15 #[.val (.int i0), .val (.int i1), .val (.int (1 : Int32)), .val (.int (3 : Int32)), .val (.ref a_SENTBOX), .unset, .unset] [(.int (3 : Int32))])) rfl (by rw [hml]; rfl) (ps := [.int]) (r := (some (.object "com/example/willebroek/willebroek/service/mailbox/MailboxFolder"))) (by decide +kernel) rfl rfl (W := 0) (by show 2 * 0 + _ ≤ _; exact Nat.le_of_eq rfl) (hb hby at_15) (by decide) (by decide) (by decide) (by decide)
      have N26 := Fr.app N25 (Fr.nil n0)
      refine own_go st26 ?_
      show own_G p e below _ T26 (mkF m 18 #[.val (.int i0), .val (.int i1), .val (.int (1 : Int32)), .val (.int (3 : Int32)), .val (.ref a_SENTBOX), .unset, .unset] [(.ref (own_pick a_INBOX a_BINSENTBOX a_BININBOX a_SENTBOX (3 : Int32)))])
      have r26 : (own_pick a_INBOX a_BINSENTBOX a_BININBOX a_SENTBOX (3 : Int32)) = a_BINSENTBOX := by unfold own_pick; rw [if_neg (show ¬ ((3 : Int32) = (0 : Int32)) by decide), if_neg (show ¬ ((3 : Int32) = (1 : Int32)) by decide), if_neg (show ¬ ((3 : Int32) = (2 : Int32)) by decide)]
      rw [r26]
      show own_G p e below _ T26 (mkF m 18 #[.val (.int i0), .val (.int i1), .val (.int (1 : Int32)), .val (.int (3 : Int32)), .val (.ref a_SENTBOX), .unset, .unset] [(.ref a_BINSENTBOX)])
      refine own_go (fun t k => XS.astore X26.here hx rfl (hb hby at_18) rfl rfl (l' := #[.val (.int i0), .val (.int i1), .val (.int (1 : Int32)), .val (.int (3 : Int32)), .val (.ref a_SENTBOX), .val (.ref a_BINSENTBOX), .unset]) rfl k) ?_
      show own_G p e below _ T26 (mkF m 20 #[.val (.int i0), .val (.int i1), .val (.int (1 : Int32)), .val (.int (3 : Int32)), .val (.ref a_SENTBOX), .val (.ref a_BINSENTBOX), .unset] [])
      refine own_go (fun t k => XS.iloadN X26.here hx rfl (hb hby at_20) rfl k) ?_
      show own_G p e below _ T26 (mkF m 21 #[.val (.int i0), .val (.int i1), .val (.int (1 : Int32)), .val (.int (3 : Int32)), .val (.ref a_SENTBOX), .val (.ref a_BINSENTBOX), .unset] [(.int (1 : Int32))])
      refine own_go (fun t k => XS.ifYes X26.here hx rfl (pc0 := 21) (pc' := 29) rfl (hb hby at_21) rfl (by decide) (by decide) (by decide) k) ?_
      show own_G p e below _ T26 (mkF m 29 #[.val (.int i0), .val (.int i1), .val (.int (1 : Int32)), .val (.int (3 : Int32)), .val (.ref a_SENTBOX), .val (.ref a_BINSENTBOX), .unset] [])
      refine own_go (fun t k => XS.iloadN X26.here hx rfl (hb hby at_29) rfl k) ?_
      show own_G p e below _ T26 (mkF m 30 #[.val (.int i0), .val (.int i1), .val (.int (1 : Int32)), .val (.int (3 : Int32)), .val (.ref a_SENTBOX), .val (.ref a_BINSENTBOX), .unset] [(.int (1 : Int32))])
      refine own_go (fun t k => XS.iconst X26.here hx rfl (hb hby at_30) k) ?_
      show own_G p e below _ T26 (mkF m 31 #[.val (.int i0), .val (.int i1), .val (.int (1 : Int32)), .val (.int (3 : Int32)), .val (.ref a_SENTBOX), .val (.ref a_BINSENTBOX), .unset] [(.int (2 : Int32)), (.int (1 : Int32))])
      refine own_go (fun t k => XS.icmpYes X26.here hx rfl (pc0 := 31) (pc' := 38) rfl (hb hby at_31) rfl (by decide) (by decide) (by decide) k) ?_
      show own_G p e below _ T26 (mkF m 38 #[.val (.int i0), .val (.int i1), .val (.int (1 : Int32)), .val (.int (3 : Int32)), .val (.ref a_SENTBOX), .val (.ref a_BINSENTBOX), .unset] [])
      refine own_go (fun t k => XS.iloadN X26.here hx rfl (hb hby at_38) rfl k) ?_
      show own_G p e below _ T26 (mkF m 39 #[.val (.int i0), .val (.int i1), .val (.int (1 : Int32)), .val (.int (3 : Int32)), .val (.ref a_SENTBOX), .val (.ref a_BINSENTBOX), .unset] [(.int (1 : Int32))])
      refine own_go (fun t k => XS.iconst X26.here hx rfl (hb hby at_39) k) ?_
      show own_G p e below _ T26 (mkF m 40 #[.val (.int i0), .val (.int i1), .val (.int (1 : Int32)), .val (.int (3 : Int32)), .val (.ref a_SENTBOX), .val (.ref a_BINSENTBOX), .unset] [(.int (1 : Int32)), (.int (1 : Int32))])
      refine own_go (fun t k => XS.icmpNo X26.here hx rfl (hb hby at_40) rfl (by decide) k) ?_
      show own_G p e below _ T26 (mkF m 43 #[.val (.int i0), .val (.int i1), .val (.int (1 : Int32)), .val (.int (3 : Int32)), .val (.ref a_SENTBOX), .val (.ref a_BINSENTBOX), .unset] [])
      refine own_go (fun t k => XS.iloadN X26.here hx rfl (hb hby at_43) rfl k) ?_
      show own_G p e below _ T26 (mkF m 44 #[.val (.int i0), .val (.int i1), .val (.int (1 : Int32)), .val (.int (3 : Int32)), .val (.ref a_SENTBOX), .val (.ref a_BINSENTBOX), .unset] [(.int (3 : Int32))])
      refine own_go (fun t k => XS.iconst X26.here hx rfl (hb hby at_44) k) ?_
      show own_G p e below _ T26 (mkF m 45 #[.val (.int i0), .val (.int i1), .val (.int (1 : Int32)), .val (.int (3 : Int32)), .val (.ref a_SENTBOX), .val (.ref a_BINSENTBOX), .unset] [(.int (3 : Int32)), (.int (3 : Int32))])
      refine own_go (fun t k => XS.icmpYes X26.here hx rfl (pc0 := 45) (pc' := 58) rfl (hb hby at_45) rfl (by decide) (by decide) (by decide) k) ?_
      show own_G p e below _ T26 (mkF m 58 #[.val (.int i0), .val (.int i1), .val (.int (1 : Int32)), .val (.int (3 : Int32)), .val (.ref a_SENTBOX), .val (.ref a_BINSENTBOX), .unset] [])
      refine own_go (fun t k => XS.iconst X26.here hx rfl (hb hby at_58) k) ?_
      show own_G p e below _ T26 (mkF m 59 #[.val (.int i0), .val (.int i1), .val (.int (1 : Int32)), .val (.int (3 : Int32)), .val (.ref a_SENTBOX), .val (.ref a_BINSENTBOX), .unset] [(.int (1 : Int32))])
      refine own_go (fun t k => XS.goto X26.here hx rfl (pc0 := 59) (pc' := 63) rfl (hb hby at_59) (by decide) (by decide) k) ?_
      show own_G p e below _ T26 (mkF m 63 #[.val (.int i0), .val (.int i1), .val (.int (1 : Int32)), .val (.int (3 : Int32)), .val (.ref a_SENTBOX), .val (.ref a_BINSENTBOX), .unset] [(.int (1 : Int32))])
      refine own_go (fun t k => XS.istore X26.here hx rfl (hb hby at_63) rfl (l' := #[.val (.int i0), .val (.int i1), .val (.int (1 : Int32)), .val (.int (3 : Int32)), .val (.ref a_SENTBOX), .val (.ref a_BINSENTBOX), .val (.int (1 : Int32))]) rfl k) ?_
      show own_G p e below _ T26 (mkF m 65 #[.val (.int i0), .val (.int i1), .val (.int (1 : Int32)), .val (.int (3 : Int32)), .val (.ref a_SENTBOX), .val (.ref a_BINSENTBOX), .val (.int (1 : Int32))] [])
      refine own_go (fun t k => XS.aload X26.here hx rfl (hb hby at_65) rfl rfl k) ?_
      show own_G p e below _ T26 (mkF m 67 #[.val (.int i0), .val (.int i1), .val (.int (1 : Int32)), .val (.int (3 : Int32)), .val (.ref a_SENTBOX), .val (.ref a_BINSENTBOX), .val (.int (1 : Int32))] [(.ref a_SENTBOX)])
      refine own_go (fun t k => XS.aload X26.here hx rfl (hb hby at_67) rfl rfl k) ?_
      show own_G p e below _ T26 (mkF m 69 #[.val (.int i0), .val (.int i1), .val (.int (1 : Int32)), .val (.int (3 : Int32)), .val (.ref a_SENTBOX), .val (.ref a_BINSENTBOX), .val (.int (1 : Int32))] [(.ref a_BINSENTBOX), (.ref a_SENTBOX)])
      obtain ⟨T27, L27, v27, X27, ⟨rfl, rfl, q27⟩, st27⟩ := own_callV X26 hx hZ (y := (⟨"com/example/willebroek/willebroek/service/mailbox/MailboxFolder", "canMoveTo", "(Lcom/example/willebroek/willebroek/service/mailbox/MailboxFolder;)Z"⟩ : MethodName)) (z := (⟨"com/example/willebroek/willebroek/service/mailbox/MailboxFolder", "canMoveTo", "(Lcom/example/willebroek/willebroek/service/mailbox/MailboxFolder;)Z"⟩ : MethodName)) hown (hw _ (List.mem_of_getElem? (i := 9) rfl)) (hw _ (List.mem_of_getElem? (i := 10) rfl)) (hw _ (List.mem_of_getElem? (i := 12) rfl)) (hw _ (List.mem_of_getElem? (i := 12) rfl)) (hw _ (List.mem_of_getElem? (i := 11) rfl)) (hw _ (List.mem_of_getElem? (i := 13) rfl)) (hw _ (List.mem_of_getElem? (i := 5) rfl)) (notFace_of_selects (args := #[]) (mvT hZ (hw _ (List.mem_of_getElem? (i := 12) rfl)))) (by decide) (c_can l Z a0 hw a_SENTBOX a_BINSENTBOX (1 : Int32) (1 : Int32) h0  F_SENTBOX_sent F_BINSENTBOX_sent) q26 E_SENTBOX (argsL := [(.ref a_BINSENTBOX)]) (rest := []) (g := (mkF m 69 #[.val (.int i0), .val (.int i1), .val (.int (1 : Int32)), .val (.int (3 : Int32)), .val (.ref a_SENTBOX), .val (.ref a_BINSENTBOX), .val (.int (1 : Int32))] [(.ref a_BINSENTBOX), (.ref a_SENTBOX)])) rfl (by rw [hml]; rfl) (ps := [(.object "com/example/willebroek/willebroek/service/mailbox/MailboxFolder")]) (r := (some .boolean)) (by decide +kernel) rfl rfl (W := 0) (by show 2 * 0 + _ ≤ _; exact Nat.le_of_eq rfl) (hb hby at_69) (by decide) (by decide) (by decide) (by decide)
      have N27 := Fr.app N26 (Fr.nil n0)
      refine own_go st27 ?_
      show own_G p e below _ T27 (mkF m 72 #[.val (.int i0), .val (.int i1), .val (.int (1 : Int32)), .val (.int (3 : Int32)), .val (.ref a_SENTBOX), .val (.ref a_BINSENTBOX), .val (.int (1 : Int32))] [(.int (own_can a_SENTBOX a_BINSENTBOX (1 : Int32) (1 : Int32)))])
      have r27 : (own_can a_SENTBOX a_BINSENTBOX (1 : Int32) (1 : Int32)) = (1 : Int32) := by unfold own_can; rw [if_neg (Fld.ne F_BINSENTBOX_ordinal F_SENTBOX_ordinal (own_neV (by decide))), if_pos (show ((1 : Int32) = (1 : Int32)) by decide)]; rfl
      rw [r27]
      show own_G p e below _ T27 (mkF m 72 #[.val (.int i0), .val (.int i1), .val (.int (1 : Int32)), .val (.int (3 : Int32)), .val (.ref a_SENTBOX), .val (.ref a_BINSENTBOX), .val (.int (1 : Int32))] [(.int (1 : Int32))])
      refine own_go (fun t k => XS.iload X27.here hx rfl (hb hby at_72) rfl k) ?_
      show own_G p e below _ T27 (mkF m 74 #[.val (.int i0), .val (.int i1), .val (.int (1 : Int32)), .val (.int (3 : Int32)), .val (.ref a_SENTBOX), .val (.ref a_BINSENTBOX), .val (.int (1 : Int32))] [(.int (1 : Int32)), (.int (1 : Int32))])
      refine own_go (fun t k => XS.icmpNo X27.here hx rfl (hb hby at_74) rfl (by decide) k) ?_
      show own_G p e below _ T27 (mkF m 77 #[.val (.int i0), .val (.int i1), .val (.int (1 : Int32)), .val (.int (3 : Int32)), .val (.ref a_SENTBOX), .val (.ref a_BINSENTBOX), .val (.int (1 : Int32))] [])
      refine own_go (fun t k => XS.iconst X27.here hx rfl (hb hby at_77) k) ?_
      show own_G p e below _ T27 (mkF m 78 #[.val (.int i0), .val (.int i1), .val (.int (1 : Int32)), .val (.int (3 : Int32)), .val (.ref a_SENTBOX), .val (.ref a_BINSENTBOX), .val (.int (1 : Int32))] [(.int (1 : Int32))])
      refine own_go (fun t k => XS.goto X27.here hx rfl (pc0 := 78) (pc' := 82) rfl (hb hby at_78) (by decide) (by decide) k) ?_
      show own_G p e below _ T27 (mkF m 82 #[.val (.int i0), .val (.int i1), .val (.int (1 : Int32)), .val (.int (3 : Int32)), .val (.ref a_SENTBOX), .val (.ref a_BINSENTBOX), .val (.int (1 : Int32))] [(.int (1 : Int32))])
      exact own_retN X27 hx hlk hret (by simp) (hb hby at_82) (by decide) (by decide) ⟨rfl, N27⟩
  · rw [hk1]
    show own_G p e below _ T0 (mkF m 3 #[.val (.int i0), .val (.int i1), .unset, .unset, .unset, .unset, .unset] [(.int (2 : Int32))])
    refine own_go (fun t k => XS.istoreN X0.here hx rfl (hb hby at_3) rfl (l' := #[.val (.int i0), .val (.int i1), .val (.int (2 : Int32)), .unset, .unset, .unset, .unset]) rfl k) ?_
    show own_G p e below _ T0 (mkF m 4 #[.val (.int i0), .val (.int i1), .val (.int (2 : Int32)), .unset, .unset, .unset, .unset] [])
    refine own_go (fun t k => XS.iloadN X0.here hx rfl (hb hby at_4) rfl k) ?_
    show own_G p e below _ T0 (mkF m 5 #[.val (.int i0), .val (.int i1), .val (.int (2 : Int32)), .unset, .unset, .unset, .unset] [(.int i1)])
    refine own_go (fun t k => XS.iconst X0.here hx rfl (hb hby at_5) k) ?_
    show own_G p e below _ T0 (mkF m 6 #[.val (.int i0), .val (.int i1), .val (.int (2 : Int32)), .unset, .unset, .unset, .unset] [(.int (3 : Int32)), (.int i1)])
    refine own_go (fun t k => XS.iand X0.here hx rfl (hb hby at_6) rfl k) ?_
    show own_G p e below _ T0 (mkF m 7 #[.val (.int i0), .val (.int i1), .val (.int (2 : Int32)), .unset, .unset, .unset, .unset] [(.int (i1 &&& (3 : Int32)))])
    rcases hf with hk28 | hk28 | hk28 | hk28
    · rw [hk28]
      show own_G p e below _ T0 (mkF m 7 #[.val (.int i0), .val (.int i1), .val (.int (2 : Int32)), .unset, .unset, .unset, .unset] [(.int (0 : Int32))])
      refine own_go (fun t k => XS.istoreN X0.here hx rfl (hb hby at_7) rfl (l' := #[.val (.int i0), .val (.int i1), .val (.int (2 : Int32)), .val (.int (0 : Int32)), .unset, .unset, .unset]) rfl k) ?_
      show own_G p e below _ T0 (mkF m 8 #[.val (.int i0), .val (.int i1), .val (.int (2 : Int32)), .val (.int (0 : Int32)), .unset, .unset, .unset] [])
      refine own_go (fun t k => XS.iloadN X0.here hx rfl (hb hby at_8) rfl k) ?_
      show own_G p e below _ T0 (mkF m 9 #[.val (.int i0), .val (.int i1), .val (.int (2 : Int32)), .val (.int (0 : Int32)), .unset, .unset, .unset] [(.int (2 : Int32))])
      obtain ⟨T29, L29, v29, X29, ⟨rfl, rfl, q29⟩, st29⟩ := own_callS X0 hx hZ (y := (⟨"com/example/willebroek/willebroek/service/mailbox/MailboxFolderCanMoveToPinLaw", "pick", "(I)Lcom/example/willebroek/willebroek/service/mailbox/MailboxFolder;"⟩ : MethodName)) hown (hw _ (List.mem_of_getElem? (i := 0) rfl)) (hw _ (List.mem_of_getElem? (i := 1) rfl)) (hw _ (List.mem_of_getElem? (i := 2) rfl)) (hw _ (List.mem_of_getElem? (i := 3) rfl)) (by decide) (c_pick l Z a0 hw a_INBOX a_BINSENTBOX a_BININBOX a_SENTBOX (2 : Int32) h0 B ) e0 (argsL := [(.int (2 : Int32))]) (rest := []) (g := (mkF m 9 #[.val (.int i0), .val (.int i1), .val (.int (2 : Int32)), .val (.int (0 : Int32)), .unset, .unset, .unset] [(.int (2 : Int32))])) rfl (by rw [hml]; rfl) (ps := [.int]) (r := (some (.object "com/example/willebroek/willebroek/service/mailbox/MailboxFolder"))) (by decide +kernel) rfl rfl (W := 0) (by show 2 * 0 + _ ≤ _; exact Nat.le_of_eq rfl) (hb hby at_9) (by decide) (by decide) (by decide) (by decide)
      have N29 := Fr.app N0 (Fr.nil n0)
      refine own_go st29 ?_
      show own_G p e below _ T29 (mkF m 12 #[.val (.int i0), .val (.int i1), .val (.int (2 : Int32)), .val (.int (0 : Int32)), .unset, .unset, .unset] [(.ref (own_pick a_INBOX a_BINSENTBOX a_BININBOX a_SENTBOX (2 : Int32)))])
      have r29 : (own_pick a_INBOX a_BINSENTBOX a_BININBOX a_SENTBOX (2 : Int32)) = a_BININBOX := by unfold own_pick; rw [if_neg (show ¬ ((2 : Int32) = (0 : Int32)) by decide), if_neg (show ¬ ((2 : Int32) = (1 : Int32)) by decide), if_pos (show ((2 : Int32) = (2 : Int32)) by decide)]
      rw [r29]
      show own_G p e below _ T29 (mkF m 12 #[.val (.int i0), .val (.int i1), .val (.int (2 : Int32)), .val (.int (0 : Int32)), .unset, .unset, .unset] [(.ref a_BININBOX)])
      refine own_go (fun t k => XS.astore X29.here hx rfl (hb hby at_12) rfl rfl (l' := #[.val (.int i0), .val (.int i1), .val (.int (2 : Int32)), .val (.int (0 : Int32)), .val (.ref a_BININBOX), .unset, .unset]) rfl k) ?_
      show own_G p e below _ T29 (mkF m 14 #[.val (.int i0), .val (.int i1), .val (.int (2 : Int32)), .val (.int (0 : Int32)), .val (.ref a_BININBOX), .unset, .unset] [])
      refine own_go (fun t k => XS.iloadN X29.here hx rfl (hb hby at_14) rfl k) ?_
      show own_G p e below _ T29 (mkF m 15 #[.val (.int i0), .val (.int i1), .val (.int (2 : Int32)), .val (.int (0 : Int32)), .val (.ref a_BININBOX), .unset, .unset] [(.int (0 : Int32))])
      obtain ⟨T30, L30, v30, X30, ⟨rfl, rfl, q30⟩, st30⟩ := own_callS X29 hx hZ (y := (⟨"com/example/willebroek/willebroek/service/mailbox/MailboxFolderCanMoveToPinLaw", "pick", "(I)Lcom/example/willebroek/willebroek/service/mailbox/MailboxFolder;"⟩ : MethodName)) hown (hw _ (List.mem_of_getElem? (i := 0) rfl)) (hw _ (List.mem_of_getElem? (i := 1) rfl)) (hw _ (List.mem_of_getElem? (i := 2) rfl)) (hw _ (List.mem_of_getElem? (i := 3) rfl)) (by decide) (c_pick l Z a0 hw a_INBOX a_BINSENTBOX a_BININBOX a_SENTBOX (0 : Int32) h0 B ) q29 (argsL := [(.int (0 : Int32))]) (rest := []) (g := (mkF m 15 #[.val (.int i0), .val (.int i1), .val (.int (2 : Int32)), .val (.int (0 : Int32)), .val (.ref a_BININBOX), .unset, .unset] [(.int (0 : Int32))])) rfl (by rw [hml]; rfl) (ps := [.int]) (r := (some (.object "com/example/willebroek/willebroek/service/mailbox/MailboxFolder"))) (by decide +kernel) rfl rfl (W := 0) (by show 2 * 0 + _ ≤ _; exact Nat.le_of_eq rfl) (hb hby at_15) (by decide) (by decide) (by decide) (by decide)
      have N30 := Fr.app N29 (Fr.nil n0)
      refine own_go st30 ?_
      show own_G p e below _ T30 (mkF m 18 #[.val (.int i0), .val (.int i1), .val (.int (2 : Int32)), .val (.int (0 : Int32)), .val (.ref a_BININBOX), .unset, .unset] [(.ref (own_pick a_INBOX a_BINSENTBOX a_BININBOX a_SENTBOX (0 : Int32)))])
      have r30 : (own_pick a_INBOX a_BINSENTBOX a_BININBOX a_SENTBOX (0 : Int32)) = a_INBOX := by unfold own_pick; rw [if_pos (show ((0 : Int32) = (0 : Int32)) by decide)]
      rw [r30]
      show own_G p e below _ T30 (mkF m 18 #[.val (.int i0), .val (.int i1), .val (.int (2 : Int32)), .val (.int (0 : Int32)), .val (.ref a_BININBOX), .unset, .unset] [(.ref a_INBOX)])
      refine own_go (fun t k => XS.astore X30.here hx rfl (hb hby at_18) rfl rfl (l' := #[.val (.int i0), .val (.int i1), .val (.int (2 : Int32)), .val (.int (0 : Int32)), .val (.ref a_BININBOX), .val (.ref a_INBOX), .unset]) rfl k) ?_
      show own_G p e below _ T30 (mkF m 20 #[.val (.int i0), .val (.int i1), .val (.int (2 : Int32)), .val (.int (0 : Int32)), .val (.ref a_BININBOX), .val (.ref a_INBOX), .unset] [])
      refine own_go (fun t k => XS.iloadN X30.here hx rfl (hb hby at_20) rfl k) ?_
      show own_G p e below _ T30 (mkF m 21 #[.val (.int i0), .val (.int i1), .val (.int (2 : Int32)), .val (.int (0 : Int32)), .val (.ref a_BININBOX), .val (.ref a_INBOX), .unset] [(.int (2 : Int32))])
      refine own_go (fun t k => XS.ifYes X30.here hx rfl (pc0 := 21) (pc' := 29) rfl (hb hby at_21) rfl (by decide) (by decide) (by decide) k) ?_
      show own_G p e below _ T30 (mkF m 29 #[.val (.int i0), .val (.int i1), .val (.int (2 : Int32)), .val (.int (0 : Int32)), .val (.ref a_BININBOX), .val (.ref a_INBOX), .unset] [])
      refine own_go (fun t k => XS.iloadN X30.here hx rfl (hb hby at_29) rfl k) ?_
      show own_G p e below _ T30 (mkF m 30 #[.val (.int i0), .val (.int i1), .val (.int (2 : Int32)), .val (.int (0 : Int32)), .val (.ref a_BININBOX), .val (.ref a_INBOX), .unset] [(.int (2 : Int32))])
      refine own_go (fun t k => XS.iconst X30.here hx rfl (hb hby at_30) k) ?_
      show own_G p e below _ T30 (mkF m 31 #[.val (.int i0), .val (.int i1), .val (.int (2 : Int32)), .val (.int (0 : Int32)), .val (.ref a_BININBOX), .val (.ref a_INBOX), .unset] [(.int (2 : Int32)), (.int (2 : Int32))])
      refine own_go (fun t k => XS.icmpNo X30.here hx rfl (hb hby at_31) rfl (by decide) k) ?_
      show own_G p e below _ T30 (mkF m 34 #[.val (.int i0), .val (.int i1), .val (.int (2 : Int32)), .val (.int (0 : Int32)), .val (.ref a_BININBOX), .val (.ref a_INBOX), .unset] [])
      refine own_go (fun t k => XS.iloadN X30.here hx rfl (hb hby at_34) rfl k) ?_
      show own_G p e below _ T30 (mkF m 35 #[.val (.int i0), .val (.int i1), .val (.int (2 : Int32)), .val (.int (0 : Int32)), .val (.ref a_BININBOX), .val (.ref a_INBOX), .unset] [(.int (0 : Int32))])
      refine own_go (fun t k => XS.ifYes X30.here hx rfl (pc0 := 35) (pc' := 58) rfl (hb hby at_35) rfl (by decide) (by decide) (by decide) k) ?_
      show own_G p e below _ T30 (mkF m 58 #[.val (.int i0), .val (.int i1), .val (.int (2 : Int32)), .val (.int (0 : Int32)), .val (.ref a_BININBOX), .val (.ref a_INBOX), .unset] [])
      refine own_go (fun t k => XS.iconst X30.here hx rfl (hb hby at_58) k) ?_
      show own_G p e below _ T30 (mkF m 59 #[.val (.int i0), .val (.int i1), .val (.int (2 : Int32)), .val (.int (0 : Int32)), .val (.ref a_BININBOX), .val (.ref a_INBOX), .unset] [(.int (1 : Int32))])
      refine own_go (fun t k => XS.goto X30.here hx rfl (pc0 := 59) (pc' := 63) rfl (hb hby at_59) (by decide) (by decide) k) ?_
      show own_G p e below _ T30 (mkF m 63 #[.val (.int i0), .val (.int i1), .val (.int (2 : Int32)), .val (.int (0 : Int32)), .val (.ref a_BININBOX), .val (.ref a_INBOX), .unset] [(.int (1 : Int32))])
      refine own_go (fun t k => XS.istore X30.here hx rfl (hb hby at_63) rfl (l' := #[.val (.int i0), .val (.int i1), .val (.int (2 : Int32)), .val (.int (0 : Int32)), .val (.ref a_BININBOX), .val (.ref a_INBOX), .val (.int (1 : Int32))]) rfl k) ?_
      show own_G p e below _ T30 (mkF m 65 #[.val (.int i0), .val (.int i1), .val (.int (2 : Int32)), .val (.int (0 : Int32)), .val (.ref a_BININBOX), .val (.ref a_INBOX), .val (.int (1 : Int32))] [])
      refine own_go (fun t k => XS.aload X30.here hx rfl (hb hby at_65) rfl rfl k) ?_
      show own_G p e below _ T30 (mkF m 67 #[.val (.int i0), .val (.int i1), .val (.int (2 : Int32)), .val (.int (0 : Int32)), .val (.ref a_BININBOX), .val (.ref a_INBOX), .val (.int (1 : Int32))] [(.ref a_BININBOX)])
      refine own_go (fun t k => XS.aload X30.here hx rfl (hb hby at_67) rfl rfl k) ?_
      show own_G p e below _ T30 (mkF m 69 #[.val (.int i0), .val (.int i1), .val (.int (2 : Int32)), .val (.int (0 : Int32)), .val (.ref a_BININBOX), .val (.ref a_INBOX), .val (.int (1 : Int32))] [(.ref a_INBOX), (.ref a_BININBOX)])
      obtain ⟨T31, L31, v31, X31, ⟨rfl, rfl, q31⟩, st31⟩ := own_callV X30 hx hZ (y := (⟨"com/example/willebroek/willebroek/service/mailbox/MailboxFolder", "canMoveTo", "(Lcom/example/willebroek/willebroek/service/mailbox/MailboxFolder;)Z"⟩ : MethodName)) (z := (⟨"com/example/willebroek/willebroek/service/mailbox/MailboxFolder", "canMoveTo", "(Lcom/example/willebroek/willebroek/service/mailbox/MailboxFolder;)Z"⟩ : MethodName)) hown (hw _ (List.mem_of_getElem? (i := 9) rfl)) (hw _ (List.mem_of_getElem? (i := 10) rfl)) (hw _ (List.mem_of_getElem? (i := 12) rfl)) (hw _ (List.mem_of_getElem? (i := 12) rfl)) (hw _ (List.mem_of_getElem? (i := 11) rfl)) (hw _ (List.mem_of_getElem? (i := 13) rfl)) (hw _ (List.mem_of_getElem? (i := 5) rfl)) (notFace_of_selects (args := #[]) (mvT hZ (hw _ (List.mem_of_getElem? (i := 12) rfl)))) (by decide) (c_can l Z a0 hw a_BININBOX a_INBOX (0 : Int32) (0 : Int32) h0  F_BININBOX_sent F_INBOX_sent) q30 E_BININBOX (argsL := [(.ref a_INBOX)]) (rest := []) (g := (mkF m 69 #[.val (.int i0), .val (.int i1), .val (.int (2 : Int32)), .val (.int (0 : Int32)), .val (.ref a_BININBOX), .val (.ref a_INBOX), .val (.int (1 : Int32))] [(.ref a_INBOX), (.ref a_BININBOX)])) rfl (by rw [hml]; rfl) (ps := [(.object "com/example/willebroek/willebroek/service/mailbox/MailboxFolder")]) (r := (some .boolean)) (by decide +kernel) rfl rfl (W := 0) (by show 2 * 0 + _ ≤ _; exact Nat.le_of_eq rfl) (hb hby at_69) (by decide) (by decide) (by decide) (by decide)
      have N31 := Fr.app N30 (Fr.nil n0)
      refine own_go st31 ?_
      show own_G p e below _ T31 (mkF m 72 #[.val (.int i0), .val (.int i1), .val (.int (2 : Int32)), .val (.int (0 : Int32)), .val (.ref a_BININBOX), .val (.ref a_INBOX), .val (.int (1 : Int32))] [(.int (own_can a_BININBOX a_INBOX (0 : Int32) (0 : Int32)))])
      have r31 : (own_can a_BININBOX a_INBOX (0 : Int32) (0 : Int32)) = (1 : Int32) := by unfold own_can; rw [if_neg (Fld.ne F_INBOX_ordinal F_BININBOX_ordinal (own_neV (by decide))), if_pos (show ((0 : Int32) = (0 : Int32)) by decide)]; rfl
      rw [r31]
      show own_G p e below _ T31 (mkF m 72 #[.val (.int i0), .val (.int i1), .val (.int (2 : Int32)), .val (.int (0 : Int32)), .val (.ref a_BININBOX), .val (.ref a_INBOX), .val (.int (1 : Int32))] [(.int (1 : Int32))])
      refine own_go (fun t k => XS.iload X31.here hx rfl (hb hby at_72) rfl k) ?_
      show own_G p e below _ T31 (mkF m 74 #[.val (.int i0), .val (.int i1), .val (.int (2 : Int32)), .val (.int (0 : Int32)), .val (.ref a_BININBOX), .val (.ref a_INBOX), .val (.int (1 : Int32))] [(.int (1 : Int32)), (.int (1 : Int32))])
      refine own_go (fun t k => XS.icmpNo X31.here hx rfl (hb hby at_74) rfl (by decide) k) ?_
      show own_G p e below _ T31 (mkF m 77 #[.val (.int i0), .val (.int i1), .val (.int (2 : Int32)), .val (.int (0 : Int32)), .val (.ref a_BININBOX), .val (.ref a_INBOX), .val (.int (1 : Int32))] [])
      refine own_go (fun t k => XS.iconst X31.here hx rfl (hb hby at_77) k) ?_
      show own_G p e below _ T31 (mkF m 78 #[.val (.int i0), .val (.int i1), .val (.int (2 : Int32)), .val (.int (0 : Int32)), .val (.ref a_BININBOX), .val (.ref a_INBOX), .val (.int (1 : Int32))] [(.int (1 : Int32))])
      refine own_go (fun t k => XS.goto X31.here hx rfl (pc0 := 78) (pc' := 82) rfl (hb hby at_78) (by decide) (by decide) k) ?_
      show own_G p e below _ T31 (mkF m 82 #[.val (.int i0), .val (.int i1), .val (.int (2 : Int32)), .val (.int (0 : Int32)), .val (.ref a_BININBOX), .val (.ref a_INBOX), .val (.int (1 : Int32))] [(.int (1 : Int32))])
      exact own_retN X31 hx hlk hret (by simp) (hb hby at_82) (by decide) (by decide) ⟨rfl, N31⟩
    · rw [hk28]
      show own_G p e below _ T0 (mkF m 7 #[.val (.int i0), .val (.int i1), .val (.int (2 : Int32)), .unset, .unset, .unset, .unset] [(.int (1 : Int32))])
      refine own_go (fun t k => XS.istoreN X0.here hx rfl (hb hby at_7) rfl (l' := #[.val (.int i0), .val (.int i1), .val (.int (2 : Int32)), .val (.int (1 : Int32)), .unset, .unset, .unset]) rfl k) ?_
      show own_G p e below _ T0 (mkF m 8 #[.val (.int i0), .val (.int i1), .val (.int (2 : Int32)), .val (.int (1 : Int32)), .unset, .unset, .unset] [])
      refine own_go (fun t k => XS.iloadN X0.here hx rfl (hb hby at_8) rfl k) ?_
      show own_G p e below _ T0 (mkF m 9 #[.val (.int i0), .val (.int i1), .val (.int (2 : Int32)), .val (.int (1 : Int32)), .unset, .unset, .unset] [(.int (2 : Int32))])
      obtain ⟨T32, L32, v32, X32, ⟨rfl, rfl, q32⟩, st32⟩ := own_callS X0 hx hZ (y := (⟨"com/example/willebroek/willebroek/service/mailbox/MailboxFolderCanMoveToPinLaw", "pick", "(I)Lcom/example/willebroek/willebroek/service/mailbox/MailboxFolder;"⟩ : MethodName)) hown (hw _ (List.mem_of_getElem? (i := 0) rfl)) (hw _ (List.mem_of_getElem? (i := 1) rfl)) (hw _ (List.mem_of_getElem? (i := 2) rfl)) (hw _ (List.mem_of_getElem? (i := 3) rfl)) (by decide) (c_pick l Z a0 hw a_INBOX a_BINSENTBOX a_BININBOX a_SENTBOX (2 : Int32) h0 B ) e0 (argsL := [(.int (2 : Int32))]) (rest := []) (g := (mkF m 9 #[.val (.int i0), .val (.int i1), .val (.int (2 : Int32)), .val (.int (1 : Int32)), .unset, .unset, .unset] [(.int (2 : Int32))])) rfl (by rw [hml]; rfl) (ps := [.int]) (r := (some (.object "com/example/willebroek/willebroek/service/mailbox/MailboxFolder"))) (by decide +kernel) rfl rfl (W := 0) (by show 2 * 0 + _ ≤ _; exact Nat.le_of_eq rfl) (hb hby at_9) (by decide) (by decide) (by decide) (by decide)
      have N32 := Fr.app N0 (Fr.nil n0)
      refine own_go st32 ?_
      show own_G p e below _ T32 (mkF m 12 #[.val (.int i0), .val (.int i1), .val (.int (2 : Int32)), .val (.int (1 : Int32)), .unset, .unset, .unset] [(.ref (own_pick a_INBOX a_BINSENTBOX a_BININBOX a_SENTBOX (2 : Int32)))])
      have r32 : (own_pick a_INBOX a_BINSENTBOX a_BININBOX a_SENTBOX (2 : Int32)) = a_BININBOX := by unfold own_pick; rw [if_neg (show ¬ ((2 : Int32) = (0 : Int32)) by decide), if_neg (show ¬ ((2 : Int32) = (1 : Int32)) by decide), if_pos (show ((2 : Int32) = (2 : Int32)) by decide)]
      rw [r32]
      show own_G p e below _ T32 (mkF m 12 #[.val (.int i0), .val (.int i1), .val (.int (2 : Int32)), .val (.int (1 : Int32)), .unset, .unset, .unset] [(.ref a_BININBOX)])
      refine own_go (fun t k => XS.astore X32.here hx rfl (hb hby at_12) rfl rfl (l' := #[.val (.int i0), .val (.int i1), .val (.int (2 : Int32)), .val (.int (1 : Int32)), .val (.ref a_BININBOX), .unset, .unset]) rfl k) ?_
      show own_G p e below _ T32 (mkF m 14 #[.val (.int i0), .val (.int i1), .val (.int (2 : Int32)), .val (.int (1 : Int32)), .val (.ref a_BININBOX), .unset, .unset] [])
      refine own_go (fun t k => XS.iloadN X32.here hx rfl (hb hby at_14) rfl k) ?_
      show own_G p e below _ T32 (mkF m 15 #[.val (.int i0), .val (.int i1), .val (.int (2 : Int32)), .val (.int (1 : Int32)), .val (.ref a_BININBOX), .unset, .unset] [(.int (1 : Int32))])
      obtain ⟨T33, L33, v33, X33, ⟨rfl, rfl, q33⟩, st33⟩ := own_callS X32 hx hZ (y := (⟨"com/example/willebroek/willebroek/service/mailbox/MailboxFolderCanMoveToPinLaw", "pick", "(I)Lcom/example/willebroek/willebroek/service/mailbox/MailboxFolder;"⟩ : MethodName)) hown (hw _ (List.mem_of_getElem? (i := 0) rfl)) (hw _ (List.mem_of_getElem? (i := 1) rfl)) (hw _ (List.mem_of_getElem? (i := 2) rfl)) (hw _ (List.mem_of_getElem? (i := 3) rfl)) (by decide) (c_pick l Z a0 hw a_INBOX a_BINSENTBOX a_BININBOX a_SENTBOX (1 : Int32) h0 B ) q32 (argsL := [(.int (1 : Int32))]) (rest := []) (g := (mkF m 15 #[.val (.int i0), .val (.int i1), .val (.int (2 : Int32)), .val (.int (1 : Int32)), .val (.ref a_BININBOX), .unset, .unset] [(.int (1 : Int32))])) rfl (by rw [hml]; rfl) (ps := [.int]) (r := (some (.object "com/example/willebroek/willebroek/service/mailbox/MailboxFolder"))) (by decide +kernel) rfl rfl (W := 0) (by show 2 * 0 + _ ≤ _; exact Nat.le_of_eq rfl) (hb hby at_15) (by decide) (by decide) (by decide) (by decide)
      have N33 := Fr.app N32 (Fr.nil n0)
      refine own_go st33 ?_
      show own_G p e below _ T33 (mkF m 18 #[.val (.int i0), .val (.int i1), .val (.int (2 : Int32)), .val (.int (1 : Int32)), .val (.ref a_BININBOX), .unset, .unset] [(.ref (own_pick a_INBOX a_BINSENTBOX a_BININBOX a_SENTBOX (1 : Int32)))])
      have r33 : (own_pick a_INBOX a_BINSENTBOX a_BININBOX a_SENTBOX (1 : Int32)) = a_SENTBOX := by unfold own_pick; rw [if_neg (show ¬ ((1 : Int32) = (0 : Int32)) by decide), if_pos (show ((1 : Int32) = (1 : Int32)) by decide)]
      rw [r33]
      show own_G p e below _ T33 (mkF m 18 #[.val (.int i0), .val (.int i1), .val (.int (2 : Int32)), .val (.int (1 : Int32)), .val (.ref a_BININBOX), .unset, .unset] [(.ref a_SENTBOX)])
      refine own_go (fun t k => XS.astore X33.here hx rfl (hb hby at_18) rfl rfl (l' := #[.val (.int i0), .val (.int i1), .val (.int (2 : Int32)), .val (.int (1 : Int32)), .val (.ref a_BININBOX), .val (.ref a_SENTBOX), .unset]) rfl k) ?_
      show own_G p e below _ T33 (mkF m 20 #[.val (.int i0), .val (.int i1), .val (.int (2 : Int32)), .val (.int (1 : Int32)), .val (.ref a_BININBOX), .val (.ref a_SENTBOX), .unset] [])
      refine own_go (fun t k => XS.iloadN X33.here hx rfl (hb hby at_20) rfl k) ?_
      show own_G p e below _ T33 (mkF m 21 #[.val (.int i0), .val (.int i1), .val (.int (2 : Int32)), .val (.int (1 : Int32)), .val (.ref a_BININBOX), .val (.ref a_SENTBOX), .unset] [(.int (2 : Int32))])
      refine own_go (fun t k => XS.ifYes X33.here hx rfl (pc0 := 21) (pc' := 29) rfl (hb hby at_21) rfl (by decide) (by decide) (by decide) k) ?_
      show own_G p e below _ T33 (mkF m 29 #[.val (.int i0), .val (.int i1), .val (.int (2 : Int32)), .val (.int (1 : Int32)), .val (.ref a_BININBOX), .val (.ref a_SENTBOX), .unset] [])
      refine own_go (fun t k => XS.iloadN X33.here hx rfl (hb hby at_29) rfl k) ?_
      show own_G p e below _ T33 (mkF m 30 #[.val (.int i0), .val (.int i1), .val (.int (2 : Int32)), .val (.int (1 : Int32)), .val (.ref a_BININBOX), .val (.ref a_SENTBOX), .unset] [(.int (2 : Int32))])
      refine own_go (fun t k => XS.iconst X33.here hx rfl (hb hby at_30) k) ?_
      show own_G p e below _ T33 (mkF m 31 #[.val (.int i0), .val (.int i1), .val (.int (2 : Int32)), .val (.int (1 : Int32)), .val (.ref a_BININBOX), .val (.ref a_SENTBOX), .unset] [(.int (2 : Int32)), (.int (2 : Int32))])
      refine own_go (fun t k => XS.icmpNo X33.here hx rfl (hb hby at_31) rfl (by decide) k) ?_
      show own_G p e below _ T33 (mkF m 34 #[.val (.int i0), .val (.int i1), .val (.int (2 : Int32)), .val (.int (1 : Int32)), .val (.ref a_BININBOX), .val (.ref a_SENTBOX), .unset] [])
      refine own_go (fun t k => XS.iloadN X33.here hx rfl (hb hby at_34) rfl k) ?_
      show own_G p e below _ T33 (mkF m 35 #[.val (.int i0), .val (.int i1), .val (.int (2 : Int32)), .val (.int (1 : Int32)), .val (.ref a_BININBOX), .val (.ref a_SENTBOX), .unset] [(.int (1 : Int32))])
      refine own_go (fun t k => XS.ifNo X33.here hx rfl (hb hby at_35) rfl (by decide) k) ?_
      show own_G p e below _ T33 (mkF m 38 #[.val (.int i0), .val (.int i1), .val (.int (2 : Int32)), .val (.int (1 : Int32)), .val (.ref a_BININBOX), .val (.ref a_SENTBOX), .unset] [])
      refine own_go (fun t k => XS.iloadN X33.here hx rfl (hb hby at_38) rfl k) ?_
      show own_G p e below _ T33 (mkF m 39 #[.val (.int i0), .val (.int i1), .val (.int (2 : Int32)), .val (.int (1 : Int32)), .val (.ref a_BININBOX), .val (.ref a_SENTBOX), .unset] [(.int (2 : Int32))])
      refine own_go (fun t k => XS.iconst X33.here hx rfl (hb hby at_39) k) ?_
      show own_G p e below _ T33 (mkF m 40 #[.val (.int i0), .val (.int i1), .val (.int (2 : Int32)), .val (.int (1 : Int32)), .val (.ref a_BININBOX), .val (.ref a_SENTBOX), .unset] [(.int (1 : Int32)), (.int (2 : Int32))])
      refine own_go (fun t k => XS.icmpYes X33.here hx rfl (pc0 := 40) (pc' := 48) rfl (hb hby at_40) rfl (by decide) (by decide) (by decide) k) ?_
      show own_G p e below _ T33 (mkF m 48 #[.val (.int i0), .val (.int i1), .val (.int (2 : Int32)), .val (.int (1 : Int32)), .val (.ref a_BININBOX), .val (.ref a_SENTBOX), .unset] [])
      refine own_go (fun t k => XS.iloadN X33.here hx rfl (hb hby at_48) rfl k) ?_
      show own_G p e below _ T33 (mkF m 49 #[.val (.int i0), .val (.int i1), .val (.int (2 : Int32)), .val (.int (1 : Int32)), .val (.ref a_BININBOX), .val (.ref a_SENTBOX), .unset] [(.int (2 : Int32))])
      refine own_go (fun t k => XS.iconst X33.here hx rfl (hb hby at_49) k) ?_
      show own_G p e below _ T33 (mkF m 50 #[.val (.int i0), .val (.int i1), .val (.int (2 : Int32)), .val (.int (1 : Int32)), .val (.ref a_BININBOX), .val (.ref a_SENTBOX), .unset] [(.int (3 : Int32)), (.int (2 : Int32))])
      refine own_go (fun t k => XS.icmpYes X33.here hx rfl (pc0 := 50) (pc' := 62) rfl (hb hby at_50) rfl (by decide) (by decide) (by decide) k) ?_
      show own_G p e below _ T33 (mkF m 62 #[.val (.int i0), .val (.int i1), .val (.int (2 : Int32)), .val (.int (1 : Int32)), .val (.ref a_BININBOX), .val (.ref a_SENTBOX), .unset] [])
      refine own_go (fun t k => XS.iconst X33.here hx rfl (hb hby at_62) k) ?_
      show own_G p e below _ T33 (mkF m 63 #[.val (.int i0), .val (.int i1), .val (.int (2 : Int32)), .val (.int (1 : Int32)), .val (.ref a_BININBOX), .val (.ref a_SENTBOX), .unset] [(.int (0 : Int32))])
      refine own_go (fun t k => XS.istore X33.here hx rfl (hb hby at_63) rfl (l' := #[.val (.int i0), .val (.int i1), .val (.int (2 : Int32)), .val (.int (1 : Int32)), .val (.ref a_BININBOX), .val (.ref a_SENTBOX), .val (.int (0 : Int32))]) rfl k) ?_
      show own_G p e below _ T33 (mkF m 65 #[.val (.int i0), .val (.int i1), .val (.int (2 : Int32)), .val (.int (1 : Int32)), .val (.ref a_BININBOX), .val (.ref a_SENTBOX), .val (.int (0 : Int32))] [])
      refine own_go (fun t k => XS.aload X33.here hx rfl (hb hby at_65) rfl rfl k) ?_
      show own_G p e below _ T33 (mkF m 67 #[.val (.int i0), .val (.int i1), .val (.int (2 : Int32)), .val (.int (1 : Int32)), .val (.ref a_BININBOX), .val (.ref a_SENTBOX), .val (.int (0 : Int32))] [(.ref a_BININBOX)])
      refine own_go (fun t k => XS.aload X33.here hx rfl (hb hby at_67) rfl rfl k) ?_
      show own_G p e below _ T33 (mkF m 69 #[.val (.int i0), .val (.int i1), .val (.int (2 : Int32)), .val (.int (1 : Int32)), .val (.ref a_BININBOX), .val (.ref a_SENTBOX), .val (.int (0 : Int32))] [(.ref a_SENTBOX), (.ref a_BININBOX)])
      obtain ⟨T34, L34, v34, X34, ⟨rfl, rfl, q34⟩, st34⟩ := own_callV X33 hx hZ (y := (⟨"com/example/willebroek/willebroek/service/mailbox/MailboxFolder", "canMoveTo", "(Lcom/example/willebroek/willebroek/service/mailbox/MailboxFolder;)Z"⟩ : MethodName)) (z := (⟨"com/example/willebroek/willebroek/service/mailbox/MailboxFolder", "canMoveTo", "(Lcom/example/willebroek/willebroek/service/mailbox/MailboxFolder;)Z"⟩ : MethodName)) hown (hw _ (List.mem_of_getElem? (i := 9) rfl)) (hw _ (List.mem_of_getElem? (i := 10) rfl)) (hw _ (List.mem_of_getElem? (i := 12) rfl)) (hw _ (List.mem_of_getElem? (i := 12) rfl)) (hw _ (List.mem_of_getElem? (i := 11) rfl)) (hw _ (List.mem_of_getElem? (i := 13) rfl)) (hw _ (List.mem_of_getElem? (i := 5) rfl)) (notFace_of_selects (args := #[]) (mvT hZ (hw _ (List.mem_of_getElem? (i := 12) rfl)))) (by decide) (c_can l Z a0 hw a_BININBOX a_SENTBOX (0 : Int32) (1 : Int32) h0  F_BININBOX_sent F_SENTBOX_sent) q33 E_BININBOX (argsL := [(.ref a_SENTBOX)]) (rest := []) (g := (mkF m 69 #[.val (.int i0), .val (.int i1), .val (.int (2 : Int32)), .val (.int (1 : Int32)), .val (.ref a_BININBOX), .val (.ref a_SENTBOX), .val (.int (0 : Int32))] [(.ref a_SENTBOX), (.ref a_BININBOX)])) rfl (by rw [hml]; rfl) (ps := [(.object "com/example/willebroek/willebroek/service/mailbox/MailboxFolder")]) (r := (some .boolean)) (by decide +kernel) rfl rfl (W := 0) (by show 2 * 0 + _ ≤ _; exact Nat.le_of_eq rfl) (hb hby at_69) (by decide) (by decide) (by decide) (by decide)
      have N34 := Fr.app N33 (Fr.nil n0)
      refine own_go st34 ?_
      show own_G p e below _ T34 (mkF m 72 #[.val (.int i0), .val (.int i1), .val (.int (2 : Int32)), .val (.int (1 : Int32)), .val (.ref a_BININBOX), .val (.ref a_SENTBOX), .val (.int (0 : Int32))] [(.int (own_can a_BININBOX a_SENTBOX (0 : Int32) (1 : Int32)))])
      have r34 : (own_can a_BININBOX a_SENTBOX (0 : Int32) (1 : Int32)) = (0 : Int32) := by unfold own_can; rw [if_neg (Fld.ne F_SENTBOX_ordinal F_BININBOX_ordinal (own_neV (by decide))), if_neg (show ¬ ((1 : Int32) = (0 : Int32)) by decide)]; rfl
      rw [r34]
      show own_G p e below _ T34 (mkF m 72 #[.val (.int i0), .val (.int i1), .val (.int (2 : Int32)), .val (.int (1 : Int32)), .val (.ref a_BININBOX), .val (.ref a_SENTBOX), .val (.int (0 : Int32))] [(.int (0 : Int32))])
      refine own_go (fun t k => XS.iload X34.here hx rfl (hb hby at_72) rfl k) ?_
      show own_G p e below _ T34 (mkF m 74 #[.val (.int i0), .val (.int i1), .val (.int (2 : Int32)), .val (.int (1 : Int32)), .val (.ref a_BININBOX), .val (.ref a_SENTBOX), .val (.int (0 : Int32))] [(.int (0 : Int32)), (.int (0 : Int32))])
      refine own_go (fun t k => XS.icmpNo X34.here hx rfl (hb hby at_74) rfl (by decide) k) ?_
      show own_G p e below _ T34 (mkF m 77 #[.val (.int i0), .val (.int i1), .val (.int (2 : Int32)), .val (.int (1 : Int32)), .val (.ref a_BININBOX), .val (.ref a_SENTBOX), .val (.int (0 : Int32))] [])
      refine own_go (fun t k => XS.iconst X34.here hx rfl (hb hby at_77) k) ?_
      show own_G p e below _ T34 (mkF m 78 #[.val (.int i0), .val (.int i1), .val (.int (2 : Int32)), .val (.int (1 : Int32)), .val (.ref a_BININBOX), .val (.ref a_SENTBOX), .val (.int (0 : Int32))] [(.int (1 : Int32))])
      refine own_go (fun t k => XS.goto X34.here hx rfl (pc0 := 78) (pc' := 82) rfl (hb hby at_78) (by decide) (by decide) k) ?_
      show own_G p e below _ T34 (mkF m 82 #[.val (.int i0), .val (.int i1), .val (.int (2 : Int32)), .val (.int (1 : Int32)), .val (.ref a_BININBOX), .val (.ref a_SENTBOX), .val (.int (0 : Int32))] [(.int (1 : Int32))])
      exact own_retN X34 hx hlk hret (by simp) (hb hby at_82) (by decide) (by decide) ⟨rfl, N34⟩
    · rw [hk28]
      show own_G p e below _ T0 (mkF m 7 #[.val (.int i0), .val (.int i1), .val (.int (2 : Int32)), .unset, .unset, .unset, .unset] [(.int (2 : Int32))])
      refine own_go (fun t k => XS.istoreN X0.here hx rfl (hb hby at_7) rfl (l' := #[.val (.int i0), .val (.int i1), .val (.int (2 : Int32)), .val (.int (2 : Int32)), .unset, .unset, .unset]) rfl k) ?_
      show own_G p e below _ T0 (mkF m 8 #[.val (.int i0), .val (.int i1), .val (.int (2 : Int32)), .val (.int (2 : Int32)), .unset, .unset, .unset] [])
      refine own_go (fun t k => XS.iloadN X0.here hx rfl (hb hby at_8) rfl k) ?_
      show own_G p e below _ T0 (mkF m 9 #[.val (.int i0), .val (.int i1), .val (.int (2 : Int32)), .val (.int (2 : Int32)), .unset, .unset, .unset] [(.int (2 : Int32))])
      obtain ⟨T35, L35, v35, X35, ⟨rfl, rfl, q35⟩, st35⟩ := own_callS X0 hx hZ (y := (⟨"com/example/willebroek/willebroek/service/mailbox/MailboxFolderCanMoveToPinLaw", "pick", "(I)Lcom/example/willebroek/willebroek/service/mailbox/MailboxFolder;"⟩ : MethodName)) hown (hw _ (List.mem_of_getElem? (i := 0) rfl)) (hw _ (List.mem_of_getElem? (i := 1) rfl)) (hw _ (List.mem_of_getElem? (i := 2) rfl)) (hw _ (List.mem_of_getElem? (i := 3) rfl)) (by decide) (c_pick l Z a0 hw a_INBOX a_BINSENTBOX a_BININBOX a_SENTBOX (2 : Int32) h0 B ) e0 (argsL := [(.int (2 : Int32))]) (rest := []) (g := (mkF m 9 #[.val (.int i0), .val (.int i1), .val (.int (2 : Int32)), .val (.int (2 : Int32)), .unset, .unset, .unset] [(.int (2 : Int32))])) rfl (by rw [hml]; rfl) (ps := [.int]) (r := (some (.object "com/example/willebroek/willebroek/service/mailbox/MailboxFolder"))) (by decide +kernel) rfl rfl (W := 0) (by show 2 * 0 + _ ≤ _; exact Nat.le_of_eq rfl) (hb hby at_9) (by decide) (by decide) (by decide) (by decide)
      have N35 := Fr.app N0 (Fr.nil n0)
      refine own_go st35 ?_
      show own_G p e below _ T35 (mkF m 12 #[.val (.int i0), .val (.int i1), .val (.int (2 : Int32)), .val (.int (2 : Int32)), .unset, .unset, .unset] [(.ref (own_pick a_INBOX a_BINSENTBOX a_BININBOX a_SENTBOX (2 : Int32)))])
      have r35 : (own_pick a_INBOX a_BINSENTBOX a_BININBOX a_SENTBOX (2 : Int32)) = a_BININBOX := by unfold own_pick; rw [if_neg (show ¬ ((2 : Int32) = (0 : Int32)) by decide), if_neg (show ¬ ((2 : Int32) = (1 : Int32)) by decide), if_pos (show ((2 : Int32) = (2 : Int32)) by decide)]
      rw [r35]
      show own_G p e below _ T35 (mkF m 12 #[.val (.int i0), .val (.int i1), .val (.int (2 : Int32)), .val (.int (2 : Int32)), .unset, .unset, .unset] [(.ref a_BININBOX)])
      refine own_go (fun t k => XS.astore X35.here hx rfl (hb hby at_12) rfl rfl (l' := #[.val (.int i0), .val (.int i1), .val (.int (2 : Int32)), .val (.int (2 : Int32)), .val (.ref a_BININBOX), .unset, .unset]) rfl k) ?_
      show own_G p e below _ T35 (mkF m 14 #[.val (.int i0), .val (.int i1), .val (.int (2 : Int32)), .val (.int (2 : Int32)), .val (.ref a_BININBOX), .unset, .unset] [])
      refine own_go (fun t k => XS.iloadN X35.here hx rfl (hb hby at_14) rfl k) ?_
      show own_G p e below _ T35 (mkF m 15 #[.val (.int i0), .val (.int i1), .val (.int (2 : Int32)), .val (.int (2 : Int32)), .val (.ref a_BININBOX), .unset, .unset] [(.int (2 : Int32))])
      obtain ⟨T36, L36, v36, X36, ⟨rfl, rfl, q36⟩, st36⟩ := own_callS X35 hx hZ (y := (⟨"com/example/willebroek/willebroek/service/mailbox/MailboxFolderCanMoveToPinLaw", "pick", "(I)Lcom/example/willebroek/willebroek/service/mailbox/MailboxFolder;"⟩ : MethodName)) hown (hw _ (List.mem_of_getElem? (i := 0) rfl)) (hw _ (List.mem_of_getElem? (i := 1) rfl)) (hw _ (List.mem_of_getElem? (i := 2) rfl)) (hw _ (List.mem_of_getElem? (i := 3) rfl)) (by decide) (c_pick l Z a0 hw a_INBOX a_BINSENTBOX a_BININBOX a_SENTBOX (2 : Int32) h0 B ) q35 (argsL := [(.int (2 : Int32))]) (rest := []) (g := (mkF m 15 #[.val (.int i0), .val (.int i1), .val (.int (2 : Int32)), .val (.int (2 : Int32)), .val (.ref a_BININBOX), .unset, .unset] [(.int (2 : Int32))])) rfl (by rw [hml]; rfl) (ps := [.int]) (r := (some (.object "com/example/willebroek/willebroek/service/mailbox/MailboxFolder"))) (by decide +kernel) rfl rfl (W := 0) (by show 2 * 0 + _ ≤ _; exact Nat.le_of_eq rfl) (hb hby at_15) (by decide) (by decide) (by decide) (by decide)
      have N36 := Fr.app N35 (Fr.nil n0)
      refine own_go st36 ?_
      show own_G p e below _ T36 (mkF m 18 #[.val (.int i0), .val (.int i1), .val (.int (2 : Int32)), .val (.int (2 : Int32)), .val (.ref a_BININBOX), .unset, .unset] [(.ref (own_pick a_INBOX a_BINSENTBOX a_BININBOX a_SENTBOX (2 : Int32)))])
      have r36 : (own_pick a_INBOX a_BINSENTBOX a_BININBOX a_SENTBOX (2 : Int32)) = a_BININBOX := by unfold own_pick; rw [if_neg (show ¬ ((2 : Int32) = (0 : Int32)) by decide), if_neg (show ¬ ((2 : Int32) = (1 : Int32)) by decide), if_pos (show ((2 : Int32) = (2 : Int32)) by decide)]
      rw [r36]
      show own_G p e below _ T36 (mkF m 18 #[.val (.int i0), .val (.int i1), .val (.int (2 : Int32)), .val (.int (2 : Int32)), .val (.ref a_BININBOX), .unset, .unset] [(.ref a_BININBOX)])
      refine own_go (fun t k => XS.astore X36.here hx rfl (hb hby at_18) rfl rfl (l' := #[.val (.int i0), .val (.int i1), .val (.int (2 : Int32)), .val (.int (2 : Int32)), .val (.ref a_BININBOX), .val (.ref a_BININBOX), .unset]) rfl k) ?_
      show own_G p e below _ T36 (mkF m 20 #[.val (.int i0), .val (.int i1), .val (.int (2 : Int32)), .val (.int (2 : Int32)), .val (.ref a_BININBOX), .val (.ref a_BININBOX), .unset] [])
      refine own_go (fun t k => XS.iloadN X36.here hx rfl (hb hby at_20) rfl k) ?_
      show own_G p e below _ T36 (mkF m 21 #[.val (.int i0), .val (.int i1), .val (.int (2 : Int32)), .val (.int (2 : Int32)), .val (.ref a_BININBOX), .val (.ref a_BININBOX), .unset] [(.int (2 : Int32))])
      refine own_go (fun t k => XS.ifYes X36.here hx rfl (pc0 := 21) (pc' := 29) rfl (hb hby at_21) rfl (by decide) (by decide) (by decide) k) ?_
      show own_G p e below _ T36 (mkF m 29 #[.val (.int i0), .val (.int i1), .val (.int (2 : Int32)), .val (.int (2 : Int32)), .val (.ref a_BININBOX), .val (.ref a_BININBOX), .unset] [])
      refine own_go (fun t k => XS.iloadN X36.here hx rfl (hb hby at_29) rfl k) ?_
      show own_G p e below _ T36 (mkF m 30 #[.val (.int i0), .val (.int i1), .val (.int (2 : Int32)), .val (.int (2 : Int32)), .val (.ref a_BININBOX), .val (.ref a_BININBOX), .unset] [(.int (2 : Int32))])
      refine own_go (fun t k => XS.iconst X36.here hx rfl (hb hby at_30) k) ?_
      show own_G p e below _ T36 (mkF m 31 #[.val (.int i0), .val (.int i1), .val (.int (2 : Int32)), .val (.int (2 : Int32)), .val (.ref a_BININBOX), .val (.ref a_BININBOX), .unset] [(.int (2 : Int32)), (.int (2 : Int32))])
      refine own_go (fun t k => XS.icmpNo X36.here hx rfl (hb hby at_31) rfl (by decide) k) ?_
      show own_G p e below _ T36 (mkF m 34 #[.val (.int i0), .val (.int i1), .val (.int (2 : Int32)), .val (.int (2 : Int32)), .val (.ref a_BININBOX), .val (.ref a_BININBOX), .unset] [])
      refine own_go (fun t k => XS.iloadN X36.here hx rfl (hb hby at_34) rfl k) ?_
      show own_G p e below _ T36 (mkF m 35 #[.val (.int i0), .val (.int i1), .val (.int (2 : Int32)), .val (.int (2 : Int32)), .val (.ref a_BININBOX), .val (.ref a_BININBOX), .unset] [(.int (2 : Int32))])
      refine own_go (fun t k => XS.ifNo X36.here hx rfl (hb hby at_35) rfl (by decide) k) ?_
      show own_G p e below _ T36 (mkF m 38 #[.val (.int i0), .val (.int i1), .val (.int (2 : Int32)), .val (.int (2 : Int32)), .val (.ref a_BININBOX), .val (.ref a_BININBOX), .unset] [])
      refine own_go (fun t k => XS.iloadN X36.here hx rfl (hb hby at_38) rfl k) ?_
      show own_G p e below _ T36 (mkF m 39 #[.val (.int i0), .val (.int i1), .val (.int (2 : Int32)), .val (.int (2 : Int32)), .val (.ref a_BININBOX), .val (.ref a_BININBOX), .unset] [(.int (2 : Int32))])
      refine own_go (fun t k => XS.iconst X36.here hx rfl (hb hby at_39) k) ?_
      show own_G p e below _ T36 (mkF m 40 #[.val (.int i0), .val (.int i1), .val (.int (2 : Int32)), .val (.int (2 : Int32)), .val (.ref a_BININBOX), .val (.ref a_BININBOX), .unset] [(.int (1 : Int32)), (.int (2 : Int32))])
      refine own_go (fun t k => XS.icmpYes X36.here hx rfl (pc0 := 40) (pc' := 48) rfl (hb hby at_40) rfl (by decide) (by decide) (by decide) k) ?_
      show own_G p e below _ T36 (mkF m 48 #[.val (.int i0), .val (.int i1), .val (.int (2 : Int32)), .val (.int (2 : Int32)), .val (.ref a_BININBOX), .val (.ref a_BININBOX), .unset] [])
      refine own_go (fun t k => XS.iloadN X36.here hx rfl (hb hby at_48) rfl k) ?_
      show own_G p e below _ T36 (mkF m 49 #[.val (.int i0), .val (.int i1), .val (.int (2 : Int32)), .val (.int (2 : Int32)), .val (.ref a_BININBOX), .val (.ref a_BININBOX), .unset] [(.int (2 : Int32))])
      refine own_go (fun t k => XS.iconst X36.here hx rfl (hb hby at_49) k) ?_
      show own_G p e below _ T36 (mkF m 50 #[.val (.int i0), .val (.int i1), .val (.int (2 : Int32)), .val (.int (2 : Int32)), .val (.ref a_BININBOX), .val (.ref a_BININBOX), .unset] [(.int (3 : Int32)), (.int (2 : Int32))])
      refine own_go (fun t k => XS.icmpYes X36.here hx rfl (pc0 := 50) (pc' := 62) rfl (hb hby at_50) rfl (by decide) (by decide) (by decide) k) ?_
      show own_G p e below _ T36 (mkF m 62 #[.val (.int i0), .val (.int i1), .val (.int (2 : Int32)), .val (.int (2 : Int32)), .val (.ref a_BININBOX), .val (.ref a_BININBOX), .unset] [])
      refine own_go (fun t k => XS.iconst X36.here hx rfl (hb hby at_62) k) ?_
      show own_G p e below _ T36 (mkF m 63 #[.val (.int i0), .val (.int i1), .val (.int (2 : Int32)), .val (.int (2 : Int32)), .val (.ref a_BININBOX), .val (.ref a_BININBOX), .unset] [(.int (0 : Int32))])
      refine own_go (fun t k => XS.istore X36.here hx rfl (hb hby at_63) rfl (l' := #[.val (.int i0), .val (.int i1), .val (.int (2 : Int32)), .val (.int (2 : Int32)), .val (.ref a_BININBOX), .val (.ref a_BININBOX), .val (.int (0 : Int32))]) rfl k) ?_
      show own_G p e below _ T36 (mkF m 65 #[.val (.int i0), .val (.int i1), .val (.int (2 : Int32)), .val (.int (2 : Int32)), .val (.ref a_BININBOX), .val (.ref a_BININBOX), .val (.int (0 : Int32))] [])
      refine own_go (fun t k => XS.aload X36.here hx rfl (hb hby at_65) rfl rfl k) ?_
      show own_G p e below _ T36 (mkF m 67 #[.val (.int i0), .val (.int i1), .val (.int (2 : Int32)), .val (.int (2 : Int32)), .val (.ref a_BININBOX), .val (.ref a_BININBOX), .val (.int (0 : Int32))] [(.ref a_BININBOX)])
      refine own_go (fun t k => XS.aload X36.here hx rfl (hb hby at_67) rfl rfl k) ?_
      show own_G p e below _ T36 (mkF m 69 #[.val (.int i0), .val (.int i1), .val (.int (2 : Int32)), .val (.int (2 : Int32)), .val (.ref a_BININBOX), .val (.ref a_BININBOX), .val (.int (0 : Int32))] [(.ref a_BININBOX), (.ref a_BININBOX)])
      obtain ⟨T37, L37, v37, X37, ⟨rfl, rfl, q37⟩, st37⟩ := own_callV X36 hx hZ (y := (⟨"com/example/willebroek/willebroek/service/mailbox/MailboxFolder", "canMoveTo", "(Lcom/example/willebroek/willebroek/service/mailbox/MailboxFolder;)Z"⟩ : MethodName)) (z := (⟨"com/example/willebroek/willebroek/service/mailbox/MailboxFolder", "canMoveTo", "(Lcom/example/willebroek/willebroek/service/mailbox/MailboxFolder;)Z"⟩ : MethodName)) hown (hw _ (List.mem_of_getElem? (i := 9) rfl)) (hw _ (List.mem_of_getElem? (i := 10) rfl)) (hw _ (List.mem_of_getElem? (i := 12) rfl)) (hw _ (List.mem_of_getElem? (i := 12) rfl)) (hw _ (List.mem_of_getElem? (i := 11) rfl)) (hw _ (List.mem_of_getElem? (i := 13) rfl)) (hw _ (List.mem_of_getElem? (i := 5) rfl)) (notFace_of_selects (args := #[]) (mvT hZ (hw _ (List.mem_of_getElem? (i := 12) rfl)))) (by decide) (c_can l Z a0 hw a_BININBOX a_BININBOX (0 : Int32) (0 : Int32) h0  F_BININBOX_sent F_BININBOX_sent) q36 E_BININBOX (argsL := [(.ref a_BININBOX)]) (rest := []) (g := (mkF m 69 #[.val (.int i0), .val (.int i1), .val (.int (2 : Int32)), .val (.int (2 : Int32)), .val (.ref a_BININBOX), .val (.ref a_BININBOX), .val (.int (0 : Int32))] [(.ref a_BININBOX), (.ref a_BININBOX)])) rfl (by rw [hml]; rfl) (ps := [(.object "com/example/willebroek/willebroek/service/mailbox/MailboxFolder")]) (r := (some .boolean)) (by decide +kernel) rfl rfl (W := 0) (by show 2 * 0 + _ ≤ _; exact Nat.le_of_eq rfl) (hb hby at_69) (by decide) (by decide) (by decide) (by decide)
      have N37 := Fr.app N36 (Fr.nil n0)
      refine own_go st37 ?_
      show own_G p e below _ T37 (mkF m 72 #[.val (.int i0), .val (.int i1), .val (.int (2 : Int32)), .val (.int (2 : Int32)), .val (.ref a_BININBOX), .val (.ref a_BININBOX), .val (.int (0 : Int32))] [(.int (own_can a_BININBOX a_BININBOX (0 : Int32) (0 : Int32)))])
      have r37 : (own_can a_BININBOX a_BININBOX (0 : Int32) (0 : Int32)) = (0 : Int32) := by unfold own_can; rw [if_pos (rfl : a_BININBOX = a_BININBOX)]; rfl
      rw [r37]
      show own_G p e below _ T37 (mkF m 72 #[.val (.int i0), .val (.int i1), .val (.int (2 : Int32)), .val (.int (2 : Int32)), .val (.ref a_BININBOX), .val (.ref a_BININBOX), .val (.int (0 : Int32))] [(.int (0 : Int32))])
      refine own_go (fun t k => XS.iload X37.here hx rfl (hb hby at_72) rfl k) ?_
      show own_G p e below _ T37 (mkF m 74 #[.val (.int i0), .val (.int i1), .val (.int (2 : Int32)), .val (.int (2 : Int32)), .val (.ref a_BININBOX), .val (.ref a_BININBOX), .val (.int (0 : Int32))] [(.int (0 : Int32)), (.int (0 : Int32))])
      refine own_go (fun t k => XS.icmpNo X37.here hx rfl (hb hby at_74) rfl (by decide) k) ?_
      show own_G p e below _ T37 (mkF m 77 #[.val (.int i0), .val (.int i1), .val (.int (2 : Int32)), .val (.int (2 : Int32)), .val (.ref a_BININBOX), .val (.ref a_BININBOX), .val (.int (0 : Int32))] [])
      refine own_go (fun t k => XS.iconst X37.here hx rfl (hb hby at_77) k) ?_
      show own_G p e below _ T37 (mkF m 78 #[.val (.int i0), .val (.int i1), .val (.int (2 : Int32)), .val (.int (2 : Int32)), .val (.ref a_BININBOX), .val (.ref a_BININBOX), .val (.int (0 : Int32))] [(.int (1 : Int32))])
      refine own_go (fun t k => XS.goto X37.here hx rfl (pc0 := 78) (pc' := 82) rfl (hb hby at_78) (by decide) (by decide) k) ?_
      show own_G p e below _ T37 (mkF m 82 #[.val (.int i0), .val (.int i1), .val (.int (2 : Int32)), .val (.int (2 : Int32)), .val (.ref a_BININBOX), .val (.ref a_BININBOX), .val (.int (0 : Int32))] [(.int (1 : Int32))])
      exact own_retN X37 hx hlk hret (by simp) (hb hby at_82) (by decide) (by decide) ⟨rfl, N37⟩
    · rw [hk28]
      show own_G p e below _ T0 (mkF m 7 #[.val (.int i0), .val (.int i1), .val (.int (2 : Int32)), .unset, .unset, .unset, .unset] [(.int (3 : Int32))])
      refine own_go (fun t k => XS.istoreN X0.here hx rfl (hb hby at_7) rfl (l' := #[.val (.int i0), .val (.int i1), .val (.int (2 : Int32)), .val (.int (3 : Int32)), .unset, .unset, .unset]) rfl k) ?_
      show own_G p e below _ T0 (mkF m 8 #[.val (.int i0), .val (.int i1), .val (.int (2 : Int32)), .val (.int (3 : Int32)), .unset, .unset, .unset] [])
      refine own_go (fun t k => XS.iloadN X0.here hx rfl (hb hby at_8) rfl k) ?_
      show own_G p e below _ T0 (mkF m 9 #[.val (.int i0), .val (.int i1), .val (.int (2 : Int32)), .val (.int (3 : Int32)), .unset, .unset, .unset] [(.int (2 : Int32))])
      obtain ⟨T38, L38, v38, X38, ⟨rfl, rfl, q38⟩, st38⟩ := own_callS X0 hx hZ (y := (⟨"com/example/willebroek/willebroek/service/mailbox/MailboxFolderCanMoveToPinLaw", "pick", "(I)Lcom/example/willebroek/willebroek/service/mailbox/MailboxFolder;"⟩ : MethodName)) hown (hw _ (List.mem_of_getElem? (i := 0) rfl)) (hw _ (List.mem_of_getElem? (i := 1) rfl)) (hw _ (List.mem_of_getElem? (i := 2) rfl)) (hw _ (List.mem_of_getElem? (i := 3) rfl)) (by decide) (c_pick l Z a0 hw a_INBOX a_BINSENTBOX a_BININBOX a_SENTBOX (2 : Int32) h0 B ) e0 (argsL := [(.int (2 : Int32))]) (rest := []) (g := (mkF m 9 #[.val (.int i0), .val (.int i1), .val (.int (2 : Int32)), .val (.int (3 : Int32)), .unset, .unset, .unset] [(.int (2 : Int32))])) rfl (by rw [hml]; rfl) (ps := [.int]) (r := (some (.object "com/example/willebroek/willebroek/service/mailbox/MailboxFolder"))) (by decide +kernel) rfl rfl (W := 0) (by show 2 * 0 + _ ≤ _; exact Nat.le_of_eq rfl) (hb hby at_9) (by decide) (by decide) (by decide) (by decide)
      have N38 := Fr.app N0 (Fr.nil n0)
      refine own_go st38 ?_
      show own_G p e below _ T38 (mkF m 12 #[.val (.int i0), .val (.int i1), .val (.int (2 : Int32)), .val (.int (3 : Int32)), .unset, .unset, .unset] [(.ref (own_pick a_INBOX a_BINSENTBOX a_BININBOX a_SENTBOX (2 : Int32)))])
      have r38 : (own_pick a_INBOX a_BINSENTBOX a_BININBOX a_SENTBOX (2 : Int32)) = a_BININBOX := by unfold own_pick; rw [if_neg (show ¬ ((2 : Int32) = (0 : Int32)) by decide), if_neg (show ¬ ((2 : Int32) = (1 : Int32)) by decide), if_pos (show ((2 : Int32) = (2 : Int32)) by decide)]
      rw [r38]
      show own_G p e below _ T38 (mkF m 12 #[.val (.int i0), .val (.int i1), .val (.int (2 : Int32)), .val (.int (3 : Int32)), .unset, .unset, .unset] [(.ref a_BININBOX)])
      refine own_go (fun t k => XS.astore X38.here hx rfl (hb hby at_12) rfl rfl (l' := #[.val (.int i0), .val (.int i1), .val (.int (2 : Int32)), .val (.int (3 : Int32)), .val (.ref a_BININBOX), .unset, .unset]) rfl k) ?_
      show own_G p e below _ T38 (mkF m 14 #[.val (.int i0), .val (.int i1), .val (.int (2 : Int32)), .val (.int (3 : Int32)), .val (.ref a_BININBOX), .unset, .unset] [])
      refine own_go (fun t k => XS.iloadN X38.here hx rfl (hb hby at_14) rfl k) ?_
      show own_G p e below _ T38 (mkF m 15 #[.val (.int i0), .val (.int i1), .val (.int (2 : Int32)), .val (.int (3 : Int32)), .val (.ref a_BININBOX), .unset, .unset] [(.int (3 : Int32))])
      obtain ⟨T39, L39, v39, X39, ⟨rfl, rfl, q39⟩, st39⟩ := own_callS X38 hx hZ (y := (⟨"com/example/willebroek/willebroek/service/mailbox/MailboxFolderCanMoveToPinLaw", "pick", "(I)Lcom/example/willebroek/willebroek/service/mailbox/MailboxFolder;"⟩ : MethodName)) hown (hw _ (List.mem_of_getElem? (i := 0) rfl)) (hw _ (List.mem_of_getElem? (i := 1) rfl)) (hw _ (List.mem_of_getElem? (i := 2) rfl)) (hw _ (List.mem_of_getElem? (i := 3) rfl)) (by decide) (c_pick l Z a0 hw a_INBOX a_BINSENTBOX a_BININBOX a_SENTBOX (3 : Int32) h0 B ) q38 (argsL := [(.int (3 : Int32))]) (rest := []) (g := (mkF m 15 #[.val (.int i0), .val (.int i1), .val (.int (2 : Int32)), .val (.int (3 : Int32)), .val (.ref a_BININBOX), .unset, .unset] [(.int (3 : Int32))])) rfl (by rw [hml]; rfl) (ps := [.int]) (r := (some (.object "com/example/willebroek/willebroek/service/mailbox/MailboxFolder"))) (by decide +kernel) rfl rfl (W := 0) (by show 2 * 0 + _ ≤ _; exact Nat.le_of_eq rfl) (hb hby at_15) (by decide) (by decide) (by decide) (by decide)
      have N39 := Fr.app N38 (Fr.nil n0)
      refine own_go st39 ?_
      show own_G p e below _ T39 (mkF m 18 #[.val (.int i0), .val (.int i1), .val (.int (2 : Int32)), .val (.int (3 : Int32)), .val (.ref a_BININBOX), .unset, .unset] [(.ref (own_pick a_INBOX a_BINSENTBOX a_BININBOX a_SENTBOX (3 : Int32)))])
      have r39 : (own_pick a_INBOX a_BINSENTBOX a_BININBOX a_SENTBOX (3 : Int32)) = a_BINSENTBOX := by unfold own_pick; rw [if_neg (show ¬ ((3 : Int32) = (0 : Int32)) by decide), if_neg (show ¬ ((3 : Int32) = (1 : Int32)) by decide), if_neg (show ¬ ((3 : Int32) = (2 : Int32)) by decide)]
      rw [r39]
      show own_G p e below _ T39 (mkF m 18 #[.val (.int i0), .val (.int i1), .val (.int (2 : Int32)), .val (.int (3 : Int32)), .val (.ref a_BININBOX), .unset, .unset] [(.ref a_BINSENTBOX)])
      refine own_go (fun t k => XS.astore X39.here hx rfl (hb hby at_18) rfl rfl (l' := #[.val (.int i0), .val (.int i1), .val (.int (2 : Int32)), .val (.int (3 : Int32)), .val (.ref a_BININBOX), .val (.ref a_BINSENTBOX), .unset]) rfl k) ?_
      show own_G p e below _ T39 (mkF m 20 #[.val (.int i0), .val (.int i1), .val (.int (2 : Int32)), .val (.int (3 : Int32)), .val (.ref a_BININBOX), .val (.ref a_BINSENTBOX), .unset] [])
      refine own_go (fun t k => XS.iloadN X39.here hx rfl (hb hby at_20) rfl k) ?_
      show own_G p e below _ T39 (mkF m 21 #[.val (.int i0), .val (.int i1), .val (.int (2 : Int32)), .val (.int (3 : Int32)), .val (.ref a_BININBOX), .val (.ref a_BINSENTBOX), .unset] [(.int (2 : Int32))])
      refine own_go (fun t k => XS.ifYes X39.here hx rfl (pc0 := 21) (pc' := 29) rfl (hb hby at_21) rfl (by decide) (by decide) (by decide) k) ?_
      show own_G p e below _ T39 (mkF m 29 #[.val (.int i0), .val (.int i1), .val (.int (2 : Int32)), .val (.int (3 : Int32)), .val (.ref a_BININBOX), .val (.ref a_BINSENTBOX), .unset] [])
      refine own_go (fun t k => XS.iloadN X39.here hx rfl (hb hby at_29) rfl k) ?_
      show own_G p e below _ T39 (mkF m 30 #[.val (.int i0), .val (.int i1), .val (.int (2 : Int32)), .val (.int (3 : Int32)), .val (.ref a_BININBOX), .val (.ref a_BINSENTBOX), .unset] [(.int (2 : Int32))])
      refine own_go (fun t k => XS.iconst X39.here hx rfl (hb hby at_30) k) ?_
      show own_G p e below _ T39 (mkF m 31 #[.val (.int i0), .val (.int i1), .val (.int (2 : Int32)), .val (.int (3 : Int32)), .val (.ref a_BININBOX), .val (.ref a_BINSENTBOX), .unset] [(.int (2 : Int32)), (.int (2 : Int32))])
      refine own_go (fun t k => XS.icmpNo X39.here hx rfl (hb hby at_31) rfl (by decide) k) ?_
      show own_G p e below _ T39 (mkF m 34 #[.val (.int i0), .val (.int i1), .val (.int (2 : Int32)), .val (.int (3 : Int32)), .val (.ref a_BININBOX), .val (.ref a_BINSENTBOX), .unset] [])
      refine own_go (fun t k => XS.iloadN X39.here hx rfl (hb hby at_34) rfl k) ?_
      show own_G p e below _ T39 (mkF m 35 #[.val (.int i0), .val (.int i1), .val (.int (2 : Int32)), .val (.int (3 : Int32)), .val (.ref a_BININBOX), .val (.ref a_BINSENTBOX), .unset] [(.int (3 : Int32))])
      refine own_go (fun t k => XS.ifNo X39.here hx rfl (hb hby at_35) rfl (by decide) k) ?_
      show own_G p e below _ T39 (mkF m 38 #[.val (.int i0), .val (.int i1), .val (.int (2 : Int32)), .val (.int (3 : Int32)), .val (.ref a_BININBOX), .val (.ref a_BINSENTBOX), .unset] [])
      refine own_go (fun t k => XS.iloadN X39.here hx rfl (hb hby at_38) rfl k) ?_
      show own_G p e below _ T39 (mkF m 39 #[.val (.int i0), .val (.int i1), .val (.int (2 : Int32)), .val (.int (3 : Int32)), .val (.ref a_BININBOX), .val (.ref a_BINSENTBOX), .unset] [(.int (2 : Int32))])
      refine own_go (fun t k => XS.iconst X39.here hx rfl (hb hby at_39) k) ?_
      show own_G p e below _ T39 (mkF m 40 #[.val (.int i0), .val (.int i1), .val (.int (2 : Int32)), .val (.int (3 : Int32)), .val (.ref a_BININBOX), .val (.ref a_BINSENTBOX), .unset] [(.int (1 : Int32)), (.int (2 : Int32))])
      refine own_go (fun t k => XS.icmpYes X39.here hx rfl (pc0 := 40) (pc' := 48) rfl (hb hby at_40) rfl (by decide) (by decide) (by decide) k) ?_
      show own_G p e below _ T39 (mkF m 48 #[.val (.int i0), .val (.int i1), .val (.int (2 : Int32)), .val (.int (3 : Int32)), .val (.ref a_BININBOX), .val (.ref a_BINSENTBOX), .unset] [])
      refine own_go (fun t k => XS.iloadN X39.here hx rfl (hb hby at_48) rfl k) ?_
      show own_G p e below _ T39 (mkF m 49 #[.val (.int i0), .val (.int i1), .val (.int (2 : Int32)), .val (.int (3 : Int32)), .val (.ref a_BININBOX), .val (.ref a_BINSENTBOX), .unset] [(.int (2 : Int32))])
      refine own_go (fun t k => XS.iconst X39.here hx rfl (hb hby at_49) k) ?_
      show own_G p e below _ T39 (mkF m 50 #[.val (.int i0), .val (.int i1), .val (.int (2 : Int32)), .val (.int (3 : Int32)), .val (.ref a_BININBOX), .val (.ref a_BINSENTBOX), .unset] [(.int (3 : Int32)), (.int (2 : Int32))])
      refine own_go (fun t k => XS.icmpYes X39.here hx rfl (pc0 := 50) (pc' := 62) rfl (hb hby at_50) rfl (by decide) (by decide) (by decide) k) ?_
      show own_G p e below _ T39 (mkF m 62 #[.val (.int i0), .val (.int i1), .val (.int (2 : Int32)), .val (.int (3 : Int32)), .val (.ref a_BININBOX), .val (.ref a_BINSENTBOX), .unset] [])
      refine own_go (fun t k => XS.iconst X39.here hx rfl (hb hby at_62) k) ?_
      show own_G p e below _ T39 (mkF m 63 #[.val (.int i0), .val (.int i1), .val (.int (2 : Int32)), .val (.int (3 : Int32)), .val (.ref a_BININBOX), .val (.ref a_BINSENTBOX), .unset] [(.int (0 : Int32))])
      refine own_go (fun t k => XS.istore X39.here hx rfl (hb hby at_63) rfl (l' := #[.val (.int i0), .val (.int i1), .val (.int (2 : Int32)), .val (.int (3 : Int32)), .val (.ref a_BININBOX), .val (.ref a_BINSENTBOX), .val (.int (0 : Int32))]) rfl k) ?_
      show own_G p e below _ T39 (mkF m 65 #[.val (.int i0), .val (.int i1), .val (.int (2 : Int32)), .val (.int (3 : Int32)), .val (.ref a_BININBOX), .val (.ref a_BINSENTBOX), .val (.int (0 : Int32))] [])
      refine own_go (fun t k => XS.aload X39.here hx rfl (hb hby at_65) rfl rfl k) ?_
      show own_G p e below _ T39 (mkF m 67 #[.val (.int i0), .val (.int i1), .val (.int (2 : Int32)), .val (.int (3 : Int32)), .val (.ref a_BININBOX), .val (.ref a_BINSENTBOX), .val (.int (0 : Int32))] [(.ref a_BININBOX)])
      refine own_go (fun t k => XS.aload X39.here hx rfl (hb hby at_67) rfl rfl k) ?_
      show own_G p e below _ T39 (mkF m 69 #[.val (.int i0), .val (.int i1), .val (.int (2 : Int32)), .val (.int (3 : Int32)), .val (.ref a_BININBOX), .val (.ref a_BINSENTBOX), .val (.int (0 : Int32))] [(.ref a_BINSENTBOX), (.ref a_BININBOX)])
      obtain ⟨T40, L40, v40, X40, ⟨rfl, rfl, q40⟩, st40⟩ := own_callV X39 hx hZ (y := (⟨"com/example/willebroek/willebroek/service/mailbox/MailboxFolder", "canMoveTo", "(Lcom/example/willebroek/willebroek/service/mailbox/MailboxFolder;)Z"⟩ : MethodName)) (z := (⟨"com/example/willebroek/willebroek/service/mailbox/MailboxFolder", "canMoveTo", "(Lcom/example/willebroek/willebroek/service/mailbox/MailboxFolder;)Z"⟩ : MethodName)) hown (hw _ (List.mem_of_getElem? (i := 9) rfl)) (hw _ (List.mem_of_getElem? (i := 10) rfl)) (hw _ (List.mem_of_getElem? (i := 12) rfl)) (hw _ (List.mem_of_getElem? (i := 12) rfl)) (hw _ (List.mem_of_getElem? (i := 11) rfl)) (hw _ (List.mem_of_getElem? (i := 13) rfl)) (hw _ (List.mem_of_getElem? (i := 5) rfl)) (notFace_of_selects (args := #[]) (mvT hZ (hw _ (List.mem_of_getElem? (i := 12) rfl)))) (by decide) (c_can l Z a0 hw a_BININBOX a_BINSENTBOX (0 : Int32) (1 : Int32) h0  F_BININBOX_sent F_BINSENTBOX_sent) q39 E_BININBOX (argsL := [(.ref a_BINSENTBOX)]) (rest := []) (g := (mkF m 69 #[.val (.int i0), .val (.int i1), .val (.int (2 : Int32)), .val (.int (3 : Int32)), .val (.ref a_BININBOX), .val (.ref a_BINSENTBOX), .val (.int (0 : Int32))] [(.ref a_BINSENTBOX), (.ref a_BININBOX)])) rfl (by rw [hml]; rfl) (ps := [(.object "com/example/willebroek/willebroek/service/mailbox/MailboxFolder")]) (r := (some .boolean)) (by decide +kernel) rfl rfl (W := 0) (by show 2 * 0 + _ ≤ _; exact Nat.le_of_eq rfl) (hb hby at_69) (by decide) (by decide) (by decide) (by decide)
      have N40 := Fr.app N39 (Fr.nil n0)
      refine own_go st40 ?_
      show own_G p e below _ T40 (mkF m 72 #[.val (.int i0), .val (.int i1), .val (.int (2 : Int32)), .val (.int (3 : Int32)), .val (.ref a_BININBOX), .val (.ref a_BINSENTBOX), .val (.int (0 : Int32))] [(.int (own_can a_BININBOX a_BINSENTBOX (0 : Int32) (1 : Int32)))])
      have r40 : (own_can a_BININBOX a_BINSENTBOX (0 : Int32) (1 : Int32)) = (0 : Int32) := by unfold own_can; rw [if_neg (Fld.ne F_BINSENTBOX_ordinal F_BININBOX_ordinal (own_neV (by decide))), if_neg (show ¬ ((1 : Int32) = (0 : Int32)) by decide)]; rfl
      rw [r40]
      show own_G p e below _ T40 (mkF m 72 #[.val (.int i0), .val (.int i1), .val (.int (2 : Int32)), .val (.int (3 : Int32)), .val (.ref a_BININBOX), .val (.ref a_BINSENTBOX), .val (.int (0 : Int32))] [(.int (0 : Int32))])
      refine own_go (fun t k => XS.iload X40.here hx rfl (hb hby at_72) rfl k) ?_
      show own_G p e below _ T40 (mkF m 74 #[.val (.int i0), .val (.int i1), .val (.int (2 : Int32)), .val (.int (3 : Int32)), .val (.ref a_BININBOX), .val (.ref a_BINSENTBOX), .val (.int (0 : Int32))] [(.int (0 : Int32)), (.int (0 : Int32))])
      refine own_go (fun t k => XS.icmpNo X40.here hx rfl (hb hby at_74) rfl (by decide) k) ?_
      show own_G p e below _ T40 (mkF m 77 #[.val (.int i0), .val (.int i1), .val (.int (2 : Int32)), .val (.int (3 : Int32)), .val (.ref a_BININBOX), .val (.ref a_BINSENTBOX), .val (.int (0 : Int32))] [])
      refine own_go (fun t k => XS.iconst X40.here hx rfl (hb hby at_77) k) ?_
      show own_G p e below _ T40 (mkF m 78 #[.val (.int i0), .val (.int i1), .val (.int (2 : Int32)), .val (.int (3 : Int32)), .val (.ref a_BININBOX), .val (.ref a_BINSENTBOX), .val (.int (0 : Int32))] [(.int (1 : Int32))])
      refine own_go (fun t k => XS.goto X40.here hx rfl (pc0 := 78) (pc' := 82) rfl (hb hby at_78) (by decide) (by decide) k) ?_
      show own_G p e below _ T40 (mkF m 82 #[.val (.int i0), .val (.int i1), .val (.int (2 : Int32)), .val (.int (3 : Int32)), .val (.ref a_BININBOX), .val (.ref a_BINSENTBOX), .val (.int (0 : Int32))] [(.int (1 : Int32))])
      exact own_retN X40 hx hlk hret (by simp) (hb hby at_82) (by decide) (by decide) ⟨rfl, N40⟩
  · rw [hk1]
    show own_G p e below _ T0 (mkF m 3 #[.val (.int i0), .val (.int i1), .unset, .unset, .unset, .unset, .unset] [(.int (3 : Int32))])
    refine own_go (fun t k => XS.istoreN X0.here hx rfl (hb hby at_3) rfl (l' := #[.val (.int i0), .val (.int i1), .val (.int (3 : Int32)), .unset, .unset, .unset, .unset]) rfl k) ?_
    show own_G p e below _ T0 (mkF m 4 #[.val (.int i0), .val (.int i1), .val (.int (3 : Int32)), .unset, .unset, .unset, .unset] [])
    refine own_go (fun t k => XS.iloadN X0.here hx rfl (hb hby at_4) rfl k) ?_
    show own_G p e below _ T0 (mkF m 5 #[.val (.int i0), .val (.int i1), .val (.int (3 : Int32)), .unset, .unset, .unset, .unset] [(.int i1)])
    refine own_go (fun t k => XS.iconst X0.here hx rfl (hb hby at_5) k) ?_
    show own_G p e below _ T0 (mkF m 6 #[.val (.int i0), .val (.int i1), .val (.int (3 : Int32)), .unset, .unset, .unset, .unset] [(.int (3 : Int32)), (.int i1)])
    refine own_go (fun t k => XS.iand X0.here hx rfl (hb hby at_6) rfl k) ?_
    show own_G p e below _ T0 (mkF m 7 #[.val (.int i0), .val (.int i1), .val (.int (3 : Int32)), .unset, .unset, .unset, .unset] [(.int (i1 &&& (3 : Int32)))])
    rcases hf with hk41 | hk41 | hk41 | hk41
    · rw [hk41]
      show own_G p e below _ T0 (mkF m 7 #[.val (.int i0), .val (.int i1), .val (.int (3 : Int32)), .unset, .unset, .unset, .unset] [(.int (0 : Int32))])
      refine own_go (fun t k => XS.istoreN X0.here hx rfl (hb hby at_7) rfl (l' := #[.val (.int i0), .val (.int i1), .val (.int (3 : Int32)), .val (.int (0 : Int32)), .unset, .unset, .unset]) rfl k) ?_
      show own_G p e below _ T0 (mkF m 8 #[.val (.int i0), .val (.int i1), .val (.int (3 : Int32)), .val (.int (0 : Int32)), .unset, .unset, .unset] [])
      refine own_go (fun t k => XS.iloadN X0.here hx rfl (hb hby at_8) rfl k) ?_
      show own_G p e below _ T0 (mkF m 9 #[.val (.int i0), .val (.int i1), .val (.int (3 : Int32)), .val (.int (0 : Int32)), .unset, .unset, .unset] [(.int (3 : Int32))])
      obtain ⟨T42, L42, v42, X42, ⟨rfl, rfl, q42⟩, st42⟩ := own_callS X0 hx hZ (y := (⟨"com/example/willebroek/willebroek/service/mailbox/MailboxFolderCanMoveToPinLaw", "pick", "(I)Lcom/example/willebroek/willebroek/service/mailbox/MailboxFolder;"⟩ : MethodName)) hown (hw _ (List.mem_of_getElem? (i := 0) rfl)) (hw _ (List.mem_of_getElem? (i := 1) rfl)) (hw _ (List.mem_of_getElem? (i := 2) rfl)) (hw _ (List.mem_of_getElem? (i := 3) rfl)) (by decide) (c_pick l Z a0 hw a_INBOX a_BINSENTBOX a_BININBOX a_SENTBOX (3 : Int32) h0 B ) e0 (argsL := [(.int (3 : Int32))]) (rest := []) (g := (mkF m 9 #[.val (.int i0), .val (.int i1), .val (.int (3 : Int32)), .val (.int (0 : Int32)), .unset, .unset, .unset] [(.int (3 : Int32))])) rfl (by rw [hml]; rfl) (ps := [.int]) (r := (some (.object "com/example/willebroek/willebroek/service/mailbox/MailboxFolder"))) (by decide +kernel) rfl rfl (W := 0) (by show 2 * 0 + _ ≤ _; exact Nat.le_of_eq rfl) (hb hby at_9) (by decide) (by decide) (by decide) (by decide)
      have N42 := Fr.app N0 (Fr.nil n0)
      refine own_go st42 ?_
      show own_G p e below _ T42 (mkF m 12 #[.val (.int i0), .val (.int i1), .val (.int (3 : Int32)), .val (.int (0 : Int32)), .unset, .unset, .unset] [(.ref (own_pick a_INBOX a_BINSENTBOX a_BININBOX a_SENTBOX (3 : Int32)))])
      have r42 : (own_pick a_INBOX a_BINSENTBOX a_BININBOX a_SENTBOX (3 : Int32)) = a_BINSENTBOX := by unfold own_pick; rw [if_neg (show ¬ ((3 : Int32) = (0 : Int32)) by decide), if_neg (show ¬ ((3 : Int32) = (1 : Int32)) by decide), if_neg (show ¬ ((3 : Int32) = (2 : Int32)) by decide)]
      rw [r42]
      show own_G p e below _ T42 (mkF m 12 #[.val (.int i0), .val (.int i1), .val (.int (3 : Int32)), .val (.int (0 : Int32)), .unset, .unset, .unset] [(.ref a_BINSENTBOX)])
      refine own_go (fun t k => XS.astore X42.here hx rfl (hb hby at_12) rfl rfl (l' := #[.val (.int i0), .val (.int i1), .val (.int (3 : Int32)), .val (.int (0 : Int32)), .val (.ref a_BINSENTBOX), .unset, .unset]) rfl k) ?_
      show own_G p e below _ T42 (mkF m 14 #[.val (.int i0), .val (.int i1), .val (.int (3 : Int32)), .val (.int (0 : Int32)), .val (.ref a_BINSENTBOX), .unset, .unset] [])
      refine own_go (fun t k => XS.iloadN X42.here hx rfl (hb hby at_14) rfl k) ?_
      show own_G p e below _ T42 (mkF m 15 #[.val (.int i0), .val (.int i1), .val (.int (3 : Int32)), .val (.int (0 : Int32)), .val (.ref a_BINSENTBOX), .unset, .unset] [(.int (0 : Int32))])
      obtain ⟨T43, L43, v43, X43, ⟨rfl, rfl, q43⟩, st43⟩ := own_callS X42 hx hZ (y := (⟨"com/example/willebroek/willebroek/service/mailbox/MailboxFolderCanMoveToPinLaw", "pick", "(I)Lcom/example/willebroek/willebroek/service/mailbox/MailboxFolder;"⟩ : MethodName)) hown (hw _ (List.mem_of_getElem? (i := 0) rfl)) (hw _ (List.mem_of_getElem? (i := 1) rfl)) (hw _ (List.mem_of_getElem? (i := 2) rfl)) (hw _ (List.mem_of_getElem? (i := 3) rfl)) (by decide) (c_pick l Z a0 hw a_INBOX a_BINSENTBOX a_BININBOX a_SENTBOX (0 : Int32) h0 B ) q42 (argsL := [(.int (0 : Int32))]) (rest := []) (g := (mkF m 15 #[.val (.int i0), .val (.int i1), .val (.int (3 : Int32)), .val (.int (0 : Int32)), .val (.ref a_BINSENTBOX), .unset, .unset] [(.int (0 : Int32))])) rfl (by rw [hml]; rfl) (ps := [.int]) (r := (some (.object "com/example/willebroek/willebroek/service/mailbox/MailboxFolder"))) (by decide +kernel) rfl rfl (W := 0) (by show 2 * 0 + _ ≤ _; exact Nat.le_of_eq rfl) (hb hby at_15) (by decide) (by decide) (by decide) (by decide)
      have N43 := Fr.app N42 (Fr.nil n0)
      refine own_go st43 ?_
      show own_G p e below _ T43 (mkF m 18 #[.val (.int i0), .val (.int i1), .val (.int (3 : Int32)), .val (.int (0 : Int32)), .val (.ref a_BINSENTBOX), .unset, .unset] [(.ref (own_pick a_INBOX a_BINSENTBOX a_BININBOX a_SENTBOX (0 : Int32)))])
      have r43 : (own_pick a_INBOX a_BINSENTBOX a_BININBOX a_SENTBOX (0 : Int32)) = a_INBOX := by unfold own_pick; rw [if_pos (show ((0 : Int32) = (0 : Int32)) by decide)]
      rw [r43]
      show own_G p e below _ T43 (mkF m 18 #[.val (.int i0), .val (.int i1), .val (.int (3 : Int32)), .val (.int (0 : Int32)), .val (.ref a_BINSENTBOX), .unset, .unset] [(.ref a_INBOX)])
      refine own_go (fun t k => XS.astore X43.here hx rfl (hb hby at_18) rfl rfl (l' := #[.val (.int i0), .val (.int i1), .val (.int (3 : Int32)), .val (.int (0 : Int32)), .val (.ref a_BINSENTBOX), .val (.ref a_INBOX), .unset]) rfl k) ?_
      show own_G p e below _ T43 (mkF m 20 #[.val (.int i0), .val (.int i1), .val (.int (3 : Int32)), .val (.int (0 : Int32)), .val (.ref a_BINSENTBOX), .val (.ref a_INBOX), .unset] [])
      refine own_go (fun t k => XS.iloadN X43.here hx rfl (hb hby at_20) rfl k) ?_
      show own_G p e below _ T43 (mkF m 21 #[.val (.int i0), .val (.int i1), .val (.int (3 : Int32)), .val (.int (0 : Int32)), .val (.ref a_BINSENTBOX), .val (.ref a_INBOX), .unset] [(.int (3 : Int32))])
      refine own_go (fun t k => XS.ifYes X43.here hx rfl (pc0 := 21) (pc' := 29) rfl (hb hby at_21) rfl (by decide) (by decide) (by decide) k) ?_
      show own_G p e below _ T43 (mkF m 29 #[.val (.int i0), .val (.int i1), .val (.int (3 : Int32)), .val (.int (0 : Int32)), .val (.ref a_BINSENTBOX), .val (.ref a_INBOX), .unset] [])
      refine own_go (fun t k => XS.iloadN X43.here hx rfl (hb hby at_29) rfl k) ?_
      show own_G p e below _ T43 (mkF m 30 #[.val (.int i0), .val (.int i1), .val (.int (3 : Int32)), .val (.int (0 : Int32)), .val (.ref a_BINSENTBOX), .val (.ref a_INBOX), .unset] [(.int (3 : Int32))])
      refine own_go (fun t k => XS.iconst X43.here hx rfl (hb hby at_30) k) ?_
      show own_G p e below _ T43 (mkF m 31 #[.val (.int i0), .val (.int i1), .val (.int (3 : Int32)), .val (.int (0 : Int32)), .val (.ref a_BINSENTBOX), .val (.ref a_INBOX), .unset] [(.int (2 : Int32)), (.int (3 : Int32))])
      refine own_go (fun t k => XS.icmpYes X43.here hx rfl (pc0 := 31) (pc' := 38) rfl (hb hby at_31) rfl (by decide) (by decide) (by decide) k) ?_
      show own_G p e below _ T43 (mkF m 38 #[.val (.int i0), .val (.int i1), .val (.int (3 : Int32)), .val (.int (0 : Int32)), .val (.ref a_BINSENTBOX), .val (.ref a_INBOX), .unset] [])
      refine own_go (fun t k => XS.iloadN X43.here hx rfl (hb hby at_38) rfl k) ?_
      show own_G p e below _ T43 (mkF m 39 #[.val (.int i0), .val (.int i1), .val (.int (3 : Int32)), .val (.int (0 : Int32)), .val (.ref a_BINSENTBOX), .val (.ref a_INBOX), .unset] [(.int (3 : Int32))])
      refine own_go (fun t k => XS.iconst X43.here hx rfl (hb hby at_39) k) ?_
      show own_G p e below _ T43 (mkF m 40 #[.val (.int i0), .val (.int i1), .val (.int (3 : Int32)), .val (.int (0 : Int32)), .val (.ref a_BINSENTBOX), .val (.ref a_INBOX), .unset] [(.int (1 : Int32)), (.int (3 : Int32))])
      refine own_go (fun t k => XS.icmpYes X43.here hx rfl (pc0 := 40) (pc' := 48) rfl (hb hby at_40) rfl (by decide) (by decide) (by decide) k) ?_
      show own_G p e below _ T43 (mkF m 48 #[.val (.int i0), .val (.int i1), .val (.int (3 : Int32)), .val (.int (0 : Int32)), .val (.ref a_BINSENTBOX), .val (.ref a_INBOX), .unset] [])
      refine own_go (fun t k => XS.iloadN X43.here hx rfl (hb hby at_48) rfl k) ?_
      show own_G p e below _ T43 (mkF m 49 #[.val (.int i0), .val (.int i1), .val (.int (3 : Int32)), .val (.int (0 : Int32)), .val (.ref a_BINSENTBOX), .val (.ref a_INBOX), .unset] [(.int (3 : Int32))])
      refine own_go (fun t k => XS.iconst X43.here hx rfl (hb hby at_49) k) ?_
      show own_G p e below _ T43 (mkF m 50 #[.val (.int i0), .val (.int i1), .val (.int (3 : Int32)), .val (.int (0 : Int32)), .val (.ref a_BINSENTBOX), .val (.ref a_INBOX), .unset] [(.int (3 : Int32)), (.int (3 : Int32))])
      refine own_go (fun t k => XS.icmpNo X43.here hx rfl (hb hby at_50) rfl (by decide) k) ?_
      show own_G p e below _ T43 (mkF m 53 #[.val (.int i0), .val (.int i1), .val (.int (3 : Int32)), .val (.int (0 : Int32)), .val (.ref a_BINSENTBOX), .val (.ref a_INBOX), .unset] [])
      refine own_go (fun t k => XS.iloadN X43.here hx rfl (hb hby at_53) rfl k) ?_
      show own_G p e below _ T43 (mkF m 54 #[.val (.int i0), .val (.int i1), .val (.int (3 : Int32)), .val (.int (0 : Int32)), .val (.ref a_BINSENTBOX), .val (.ref a_INBOX), .unset] [(.int (0 : Int32))])
      refine own_go (fun t k => XS.iconst X43.here hx rfl (hb hby at_54) k) ?_
      show own_G p e below _ T43 (mkF m 55 #[.val (.int i0), .val (.int i1), .val (.int (3 : Int32)), .val (.int (0 : Int32)), .val (.ref a_BINSENTBOX), .val (.ref a_INBOX), .unset] [(.int (1 : Int32)), (.int (0 : Int32))])
      refine own_go (fun t k => XS.icmpYes X43.here hx rfl (pc0 := 55) (pc' := 62) rfl (hb hby at_55) rfl (by decide) (by decide) (by decide) k) ?_
      show own_G p e below _ T43 (mkF m 62 #[.val (.int i0), .val (.int i1), .val (.int (3 : Int32)), .val (.int (0 : Int32)), .val (.ref a_BINSENTBOX), .val (.ref a_INBOX), .unset] [])
      refine own_go (fun t k => XS.iconst X43.here hx rfl (hb hby at_62) k) ?_
      show own_G p e below _ T43 (mkF m 63 #[.val (.int i0), .val (.int i1), .val (.int (3 : Int32)), .val (.int (0 : Int32)), .val (.ref a_BINSENTBOX), .val (.ref a_INBOX), .unset] [(.int (0 : Int32))])
      refine own_go (fun t k => XS.istore X43.here hx rfl (hb hby at_63) rfl (l' := #[.val (.int i0), .val (.int i1), .val (.int (3 : Int32)), .val (.int (0 : Int32)), .val (.ref a_BINSENTBOX), .val (.ref a_INBOX), .val (.int (0 : Int32))]) rfl k) ?_
      show own_G p e below _ T43 (mkF m 65 #[.val (.int i0), .val (.int i1), .val (.int (3 : Int32)), .val (.int (0 : Int32)), .val (.ref a_BINSENTBOX), .val (.ref a_INBOX), .val (.int (0 : Int32))] [])
      refine own_go (fun t k => XS.aload X43.here hx rfl (hb hby at_65) rfl rfl k) ?_
      show own_G p e below _ T43 (mkF m 67 #[.val (.int i0), .val (.int i1), .val (.int (3 : Int32)), .val (.int (0 : Int32)), .val (.ref a_BINSENTBOX), .val (.ref a_INBOX), .val (.int (0 : Int32))] [(.ref a_BINSENTBOX)])
      refine own_go (fun t k => XS.aload X43.here hx rfl (hb hby at_67) rfl rfl k) ?_
      show own_G p e below _ T43 (mkF m 69 #[.val (.int i0), .val (.int i1), .val (.int (3 : Int32)), .val (.int (0 : Int32)), .val (.ref a_BINSENTBOX), .val (.ref a_INBOX), .val (.int (0 : Int32))] [(.ref a_INBOX), (.ref a_BINSENTBOX)])
      obtain ⟨T44, L44, v44, X44, ⟨rfl, rfl, q44⟩, st44⟩ := own_callV X43 hx hZ (y := (⟨"com/example/willebroek/willebroek/service/mailbox/MailboxFolder", "canMoveTo", "(Lcom/example/willebroek/willebroek/service/mailbox/MailboxFolder;)Z"⟩ : MethodName)) (z := (⟨"com/example/willebroek/willebroek/service/mailbox/MailboxFolder", "canMoveTo", "(Lcom/example/willebroek/willebroek/service/mailbox/MailboxFolder;)Z"⟩ : MethodName)) hown (hw _ (List.mem_of_getElem? (i := 9) rfl)) (hw _ (List.mem_of_getElem? (i := 10) rfl)) (hw _ (List.mem_of_getElem? (i := 12) rfl)) (hw _ (List.mem_of_getElem? (i := 12) rfl)) (hw _ (List.mem_of_getElem? (i := 11) rfl)) (hw _ (List.mem_of_getElem? (i := 13) rfl)) (hw _ (List.mem_of_getElem? (i := 5) rfl)) (notFace_of_selects (args := #[]) (mvT hZ (hw _ (List.mem_of_getElem? (i := 12) rfl)))) (by decide) (c_can l Z a0 hw a_BINSENTBOX a_INBOX (1 : Int32) (0 : Int32) h0  F_BINSENTBOX_sent F_INBOX_sent) q43 E_BINSENTBOX (argsL := [(.ref a_INBOX)]) (rest := []) (g := (mkF m 69 #[.val (.int i0), .val (.int i1), .val (.int (3 : Int32)), .val (.int (0 : Int32)), .val (.ref a_BINSENTBOX), .val (.ref a_INBOX), .val (.int (0 : Int32))] [(.ref a_INBOX), (.ref a_BINSENTBOX)])) rfl (by rw [hml]; rfl) (ps := [(.object "com/example/willebroek/willebroek/service/mailbox/MailboxFolder")]) (r := (some .boolean)) (by decide +kernel) rfl rfl (W := 0) (by show 2 * 0 + _ ≤ _; exact Nat.le_of_eq rfl) (hb hby at_69) (by decide) (by decide) (by decide) (by decide)
      have N44 := Fr.app N43 (Fr.nil n0)
      refine own_go st44 ?_
      show own_G p e below _ T44 (mkF m 72 #[.val (.int i0), .val (.int i1), .val (.int (3 : Int32)), .val (.int (0 : Int32)), .val (.ref a_BINSENTBOX), .val (.ref a_INBOX), .val (.int (0 : Int32))] [(.int (own_can a_BINSENTBOX a_INBOX (1 : Int32) (0 : Int32)))])
      have r44 : (own_can a_BINSENTBOX a_INBOX (1 : Int32) (0 : Int32)) = (0 : Int32) := by unfold own_can; rw [if_neg (Fld.ne F_INBOX_ordinal F_BINSENTBOX_ordinal (own_neV (by decide))), if_neg (show ¬ ((0 : Int32) = (1 : Int32)) by decide)]; rfl
      rw [r44]
      show own_G p e below _ T44 (mkF m 72 #[.val (.int i0), .val (.int i1), .val (.int (3 : Int32)), .val (.int (0 : Int32)), .val (.ref a_BINSENTBOX), .val (.ref a_INBOX), .val (.int (0 : Int32))] [(.int (0 : Int32))])
      refine own_go (fun t k => XS.iload X44.here hx rfl (hb hby at_72) rfl k) ?_
      show own_G p e below _ T44 (mkF m 74 #[.val (.int i0), .val (.int i1), .val (.int (3 : Int32)), .val (.int (0 : Int32)), .val (.ref a_BINSENTBOX), .val (.ref a_INBOX), .val (.int (0 : Int32))] [(.int (0 : Int32)), (.int (0 : Int32))])
      refine own_go (fun t k => XS.icmpNo X44.here hx rfl (hb hby at_74) rfl (by decide) k) ?_
      show own_G p e below _ T44 (mkF m 77 #[.val (.int i0), .val (.int i1), .val (.int (3 : Int32)), .val (.int (0 : Int32)), .val (.ref a_BINSENTBOX), .val (.ref a_INBOX), .val (.int (0 : Int32))] [])
      refine own_go (fun t k => XS.iconst X44.here hx rfl (hb hby at_77) k) ?_
      show own_G p e below _ T44 (mkF m 78 #[.val (.int i0), .val (.int i1), .val (.int (3 : Int32)), .val (.int (0 : Int32)), .val (.ref a_BINSENTBOX), .val (.ref a_INBOX), .val (.int (0 : Int32))] [(.int (1 : Int32))])
      refine own_go (fun t k => XS.goto X44.here hx rfl (pc0 := 78) (pc' := 82) rfl (hb hby at_78) (by decide) (by decide) k) ?_
      show own_G p e below _ T44 (mkF m 82 #[.val (.int i0), .val (.int i1), .val (.int (3 : Int32)), .val (.int (0 : Int32)), .val (.ref a_BINSENTBOX), .val (.ref a_INBOX), .val (.int (0 : Int32))] [(.int (1 : Int32))])
      exact own_retN X44 hx hlk hret (by simp) (hb hby at_82) (by decide) (by decide) ⟨rfl, N44⟩
    · rw [hk41]
      show own_G p e below _ T0 (mkF m 7 #[.val (.int i0), .val (.int i1), .val (.int (3 : Int32)), .unset, .unset, .unset, .unset] [(.int (1 : Int32))])
      refine own_go (fun t k => XS.istoreN X0.here hx rfl (hb hby at_7) rfl (l' := #[.val (.int i0), .val (.int i1), .val (.int (3 : Int32)), .val (.int (1 : Int32)), .unset, .unset, .unset]) rfl k) ?_
      show own_G p e below _ T0 (mkF m 8 #[.val (.int i0), .val (.int i1), .val (.int (3 : Int32)), .val (.int (1 : Int32)), .unset, .unset, .unset] [])
      refine own_go (fun t k => XS.iloadN X0.here hx rfl (hb hby at_8) rfl k) ?_
      show own_G p e below _ T0 (mkF m 9 #[.val (.int i0), .val (.int i1), .val (.int (3 : Int32)), .val (.int (1 : Int32)), .unset, .unset, .unset] [(.int (3 : Int32))])
      obtain ⟨T45, L45, v45, X45, ⟨rfl, rfl, q45⟩, st45⟩ := own_callS X0 hx hZ (y := (⟨"com/example/willebroek/willebroek/service/mailbox/MailboxFolderCanMoveToPinLaw", "pick", "(I)Lcom/example/willebroek/willebroek/service/mailbox/MailboxFolder;"⟩ : MethodName)) hown (hw _ (List.mem_of_getElem? (i := 0) rfl)) (hw _ (List.mem_of_getElem? (i := 1) rfl)) (hw _ (List.mem_of_getElem? (i := 2) rfl)) (hw _ (List.mem_of_getElem? (i := 3) rfl)) (by decide) (c_pick l Z a0 hw a_INBOX a_BINSENTBOX a_BININBOX a_SENTBOX (3 : Int32) h0 B ) e0 (argsL := [(.int (3 : Int32))]) (rest := []) (g := (mkF m 9 #[.val (.int i0), .val (.int i1), .val (.int (3 : Int32)), .val (.int (1 : Int32)), .unset, .unset, .unset] [(.int (3 : Int32))])) rfl (by rw [hml]; rfl) (ps := [.int]) (r := (some (.object "com/example/willebroek/willebroek/service/mailbox/MailboxFolder"))) (by decide +kernel) rfl rfl (W := 0) (by show 2 * 0 + _ ≤ _; exact Nat.le_of_eq rfl) (hb hby at_9) (by decide) (by decide) (by decide) (by decide)
      have N45 := Fr.app N0 (Fr.nil n0)
      refine own_go st45 ?_
      show own_G p e below _ T45 (mkF m 12 #[.val (.int i0), .val (.int i1), .val (.int (3 : Int32)), .val (.int (1 : Int32)), .unset, .unset, .unset] [(.ref (own_pick a_INBOX a_BINSENTBOX a_BININBOX a_SENTBOX (3 : Int32)))])
      have r45 : (own_pick a_INBOX a_BINSENTBOX a_BININBOX a_SENTBOX (3 : Int32)) = a_BINSENTBOX := by unfold own_pick; rw [if_neg (show ¬ ((3 : Int32) = (0 : Int32)) by decide), if_neg (show ¬ ((3 : Int32) = (1 : Int32)) by decide), if_neg (show ¬ ((3 : Int32) = (2 : Int32)) by decide)]
      rw [r45]
      show own_G p e below _ T45 (mkF m 12 #[.val (.int i0), .val (.int i1), .val (.int (3 : Int32)), .val (.int (1 : Int32)), .unset, .unset, .unset] [(.ref a_BINSENTBOX)])
      refine own_go (fun t k => XS.astore X45.here hx rfl (hb hby at_12) rfl rfl (l' := #[.val (.int i0), .val (.int i1), .val (.int (3 : Int32)), .val (.int (1 : Int32)), .val (.ref a_BINSENTBOX), .unset, .unset]) rfl k) ?_
      show own_G p e below _ T45 (mkF m 14 #[.val (.int i0), .val (.int i1), .val (.int (3 : Int32)), .val (.int (1 : Int32)), .val (.ref a_BINSENTBOX), .unset, .unset] [])
      refine own_go (fun t k => XS.iloadN X45.here hx rfl (hb hby at_14) rfl k) ?_
      show own_G p e below _ T45 (mkF m 15 #[.val (.int i0), .val (.int i1), .val (.int (3 : Int32)), .val (.int (1 : Int32)), .val (.ref a_BINSENTBOX), .unset, .unset] [(.int (1 : Int32))])
      obtain ⟨T46, L46, v46, X46, ⟨rfl, rfl, q46⟩, st46⟩ := own_callS X45 hx hZ (y := (⟨"com/example/willebroek/willebroek/service/mailbox/MailboxFolderCanMoveToPinLaw", "pick", "(I)Lcom/example/willebroek/willebroek/service/mailbox/MailboxFolder;"⟩ : MethodName)) hown (hw _ (List.mem_of_getElem? (i := 0) rfl)) (hw _ (List.mem_of_getElem? (i := 1) rfl)) (hw _ (List.mem_of_getElem? (i := 2) rfl)) (hw _ (List.mem_of_getElem? (i := 3) rfl)) (by decide) (c_pick l Z a0 hw a_INBOX a_BINSENTBOX a_BININBOX a_SENTBOX (1 : Int32) h0 B ) q45 (argsL := [(.int (1 : Int32))]) (rest := []) (g := (mkF m 15 #[.val (.int i0), .val (.int i1), .val (.int (3 : Int32)), .val (.int (1 : Int32)), .val (.ref a_BINSENTBOX), .unset, .unset] [(.int (1 : Int32))])) rfl (by rw [hml]; rfl) (ps := [.int]) (r := (some (.object "com/example/willebroek/willebroek/service/mailbox/MailboxFolder"))) (by decide +kernel) rfl rfl (W := 0) (by show 2 * 0 + _ ≤ _; exact Nat.le_of_eq rfl) (hb hby at_15) (by decide) (by decide) (by decide) (by decide)
      have N46 := Fr.app N45 (Fr.nil n0)
      refine own_go st46 ?_
      show own_G p e below _ T46 (mkF m 18 #[.val (.int i0), .val (.int i1), .val (.int (3 : Int32)), .val (.int (1 : Int32)), .val (.ref a_BINSENTBOX), .unset, .unset] [(.ref (own_pick a_INBOX a_BINSENTBOX a_BININBOX a_SENTBOX (1 : Int32)))])
      have r46 : (own_pick a_INBOX a_BINSENTBOX a_BININBOX a_SENTBOX (1 : Int32)) = a_SENTBOX := by unfold own_pick; rw [if_neg (show ¬ ((1 : Int32) = (0 : Int32)) by decide), if_pos (show ((1 : Int32) = (1 : Int32)) by decide)]
      rw [r46]
      show own_G p e below _ T46 (mkF m 18 #[.val (.int i0), .val (.int i1), .val (.int (3 : Int32)), .val (.int (1 : Int32)), .val (.ref a_BINSENTBOX), .unset, .unset] [(.ref a_SENTBOX)])
      refine own_go (fun t k => XS.astore X46.here hx rfl (hb hby at_18) rfl rfl (l' := #[.val (.int i0), .val (.int i1), .val (.int (3 : Int32)), .val (.int (1 : Int32)), .val (.ref a_BINSENTBOX), .val (.ref a_SENTBOX), .unset]) rfl k) ?_
      show own_G p e below _ T46 (mkF m 20 #[.val (.int i0), .val (.int i1), .val (.int (3 : Int32)), .val (.int (1 : Int32)), .val (.ref a_BINSENTBOX), .val (.ref a_SENTBOX), .unset] [])
      refine own_go (fun t k => XS.iloadN X46.here hx rfl (hb hby at_20) rfl k) ?_
      show own_G p e below _ T46 (mkF m 21 #[.val (.int i0), .val (.int i1), .val (.int (3 : Int32)), .val (.int (1 : Int32)), .val (.ref a_BINSENTBOX), .val (.ref a_SENTBOX), .unset] [(.int (3 : Int32))])
      refine own_go (fun t k => XS.ifYes X46.here hx rfl (pc0 := 21) (pc' := 29) rfl (hb hby at_21) rfl (by decide) (by decide) (by decide) k) ?_
      show own_G p e below _ T46 (mkF m 29 #[.val (.int i0), .val (.int i1), .val (.int (3 : Int32)), .val (.int (1 : Int32)), .val (.ref a_BINSENTBOX), .val (.ref a_SENTBOX), .unset] [])
      refine own_go (fun t k => XS.iloadN X46.here hx rfl (hb hby at_29) rfl k) ?_
      show own_G p e below _ T46 (mkF m 30 #[.val (.int i0), .val (.int i1), .val (.int (3 : Int32)), .val (.int (1 : Int32)), .val (.ref a_BINSENTBOX), .val (.ref a_SENTBOX), .unset] [(.int (3 : Int32))])
      refine own_go (fun t k => XS.iconst X46.here hx rfl (hb hby at_30) k) ?_
      show own_G p e below _ T46 (mkF m 31 #[.val (.int i0), .val (.int i1), .val (.int (3 : Int32)), .val (.int (1 : Int32)), .val (.ref a_BINSENTBOX), .val (.ref a_SENTBOX), .unset] [(.int (2 : Int32)), (.int (3 : Int32))])
      refine own_go (fun t k => XS.icmpYes X46.here hx rfl (pc0 := 31) (pc' := 38) rfl (hb hby at_31) rfl (by decide) (by decide) (by decide) k) ?_
      show own_G p e below _ T46 (mkF m 38 #[.val (.int i0), .val (.int i1), .val (.int (3 : Int32)), .val (.int (1 : Int32)), .val (.ref a_BINSENTBOX), .val (.ref a_SENTBOX), .unset] [])
      refine own_go (fun t k => XS.iloadN X46.here hx rfl (hb hby at_38) rfl k) ?_
      show own_G p e below _ T46 (mkF m 39 #[.val (.int i0), .val (.int i1), .val (.int (3 : Int32)), .val (.int (1 : Int32)), .val (.ref a_BINSENTBOX), .val (.ref a_SENTBOX), .unset] [(.int (3 : Int32))])
      refine own_go (fun t k => XS.iconst X46.here hx rfl (hb hby at_39) k) ?_
      show own_G p e below _ T46 (mkF m 40 #[.val (.int i0), .val (.int i1), .val (.int (3 : Int32)), .val (.int (1 : Int32)), .val (.ref a_BINSENTBOX), .val (.ref a_SENTBOX), .unset] [(.int (1 : Int32)), (.int (3 : Int32))])
      refine own_go (fun t k => XS.icmpYes X46.here hx rfl (pc0 := 40) (pc' := 48) rfl (hb hby at_40) rfl (by decide) (by decide) (by decide) k) ?_
      show own_G p e below _ T46 (mkF m 48 #[.val (.int i0), .val (.int i1), .val (.int (3 : Int32)), .val (.int (1 : Int32)), .val (.ref a_BINSENTBOX), .val (.ref a_SENTBOX), .unset] [])
      refine own_go (fun t k => XS.iloadN X46.here hx rfl (hb hby at_48) rfl k) ?_
      show own_G p e below _ T46 (mkF m 49 #[.val (.int i0), .val (.int i1), .val (.int (3 : Int32)), .val (.int (1 : Int32)), .val (.ref a_BINSENTBOX), .val (.ref a_SENTBOX), .unset] [(.int (3 : Int32))])
      refine own_go (fun t k => XS.iconst X46.here hx rfl (hb hby at_49) k) ?_
      show own_G p e below _ T46 (mkF m 50 #[.val (.int i0), .val (.int i1), .val (.int (3 : Int32)), .val (.int (1 : Int32)), .val (.ref a_BINSENTBOX), .val (.ref a_SENTBOX), .unset] [(.int (3 : Int32)), (.int (3 : Int32))])
      refine own_go (fun t k => XS.icmpNo X46.here hx rfl (hb hby at_50) rfl (by decide) k) ?_
      show own_G p e below _ T46 (mkF m 53 #[.val (.int i0), .val (.int i1), .val (.int (3 : Int32)), .val (.int (1 : Int32)), .val (.ref a_BINSENTBOX), .val (.ref a_SENTBOX), .unset] [])
      refine own_go (fun t k => XS.iloadN X46.here hx rfl (hb hby at_53) rfl k) ?_
      show own_G p e below _ T46 (mkF m 54 #[.val (.int i0), .val (.int i1), .val (.int (3 : Int32)), .val (.int (1 : Int32)), .val (.ref a_BINSENTBOX), .val (.ref a_SENTBOX), .unset] [(.int (1 : Int32))])
      refine own_go (fun t k => XS.iconst X46.here hx rfl (hb hby at_54) k) ?_
      show own_G p e below _ T46 (mkF m 55 #[.val (.int i0), .val (.int i1), .val (.int (3 : Int32)), .val (.int (1 : Int32)), .val (.ref a_BINSENTBOX), .val (.ref a_SENTBOX), .unset] [(.int (1 : Int32)), (.int (1 : Int32))])
      refine own_go (fun t k => XS.icmpNo X46.here hx rfl (hb hby at_55) rfl (by decide) k) ?_
      show own_G p e below _ T46 (mkF m 58 #[.val (.int i0), .val (.int i1), .val (.int (3 : Int32)), .val (.int (1 : Int32)), .val (.ref a_BINSENTBOX), .val (.ref a_SENTBOX), .unset] [])
      refine own_go (fun t k => XS.iconst X46.here hx rfl (hb hby at_58) k) ?_
      show own_G p e below _ T46 (mkF m 59 #[.val (.int i0), .val (.int i1), .val (.int (3 : Int32)), .val (.int (1 : Int32)), .val (.ref a_BINSENTBOX), .val (.ref a_SENTBOX), .unset] [(.int (1 : Int32))])
      refine own_go (fun t k => XS.goto X46.here hx rfl (pc0 := 59) (pc' := 63) rfl (hb hby at_59) (by decide) (by decide) k) ?_
      show own_G p e below _ T46 (mkF m 63 #[.val (.int i0), .val (.int i1), .val (.int (3 : Int32)), .val (.int (1 : Int32)), .val (.ref a_BINSENTBOX), .val (.ref a_SENTBOX), .unset] [(.int (1 : Int32))])
      refine own_go (fun t k => XS.istore X46.here hx rfl (hb hby at_63) rfl (l' := #[.val (.int i0), .val (.int i1), .val (.int (3 : Int32)), .val (.int (1 : Int32)), .val (.ref a_BINSENTBOX), .val (.ref a_SENTBOX), .val (.int (1 : Int32))]) rfl k) ?_
      show own_G p e below _ T46 (mkF m 65 #[.val (.int i0), .val (.int i1), .val (.int (3 : Int32)), .val (.int (1 : Int32)), .val (.ref a_BINSENTBOX), .val (.ref a_SENTBOX), .val (.int (1 : Int32))] [])
      refine own_go (fun t k => XS.aload X46.here hx rfl (hb hby at_65) rfl rfl k) ?_
      show own_G p e below _ T46 (mkF m 67 #[.val (.int i0), .val (.int i1), .val (.int (3 : Int32)), .val (.int (1 : Int32)), .val (.ref a_BINSENTBOX), .val (.ref a_SENTBOX), .val (.int (1 : Int32))] [(.ref a_BINSENTBOX)])
      refine own_go (fun t k => XS.aload X46.here hx rfl (hb hby at_67) rfl rfl k) ?_
      show own_G p e below _ T46 (mkF m 69 #[.val (.int i0), .val (.int i1), .val (.int (3 : Int32)), .val (.int (1 : Int32)), .val (.ref a_BINSENTBOX), .val (.ref a_SENTBOX), .val (.int (1 : Int32))] [(.ref a_SENTBOX), (.ref a_BINSENTBOX)])
      obtain ⟨T47, L47, v47, X47, ⟨rfl, rfl, q47⟩, st47⟩ := own_callV X46 hx hZ (y := (⟨"com/example/willebroek/willebroek/service/mailbox/MailboxFolder", "canMoveTo", "(Lcom/example/willebroek/willebroek/service/mailbox/MailboxFolder;)Z"⟩ : MethodName)) (z := (⟨"com/example/willebroek/willebroek/service/mailbox/MailboxFolder", "canMoveTo", "(Lcom/example/willebroek/willebroek/service/mailbox/MailboxFolder;)Z"⟩ : MethodName)) hown (hw _ (List.mem_of_getElem? (i := 9) rfl)) (hw _ (List.mem_of_getElem? (i := 10) rfl)) (hw _ (List.mem_of_getElem? (i := 12) rfl)) (hw _ (List.mem_of_getElem? (i := 12) rfl)) (hw _ (List.mem_of_getElem? (i := 11) rfl)) (hw _ (List.mem_of_getElem? (i := 13) rfl)) (hw _ (List.mem_of_getElem? (i := 5) rfl)) (notFace_of_selects (args := #[]) (mvT hZ (hw _ (List.mem_of_getElem? (i := 12) rfl)))) (by decide) (c_can l Z a0 hw a_BINSENTBOX a_SENTBOX (1 : Int32) (1 : Int32) h0  F_BINSENTBOX_sent F_SENTBOX_sent) q46 E_BINSENTBOX (argsL := [(.ref a_SENTBOX)]) (rest := []) (g := (mkF m 69 #[.val (.int i0), .val (.int i1), .val (.int (3 : Int32)), .val (.int (1 : Int32)), .val (.ref a_BINSENTBOX), .val (.ref a_SENTBOX), .val (.int (1 : Int32))] [(.ref a_SENTBOX), (.ref a_BINSENTBOX)])) rfl (by rw [hml]; rfl) (ps := [(.object "com/example/willebroek/willebroek/service/mailbox/MailboxFolder")]) (r := (some .boolean)) (by decide +kernel) rfl rfl (W := 0) (by show 2 * 0 + _ ≤ _; exact Nat.le_of_eq rfl) (hb hby at_69) (by decide) (by decide) (by decide) (by decide)
      have N47 := Fr.app N46 (Fr.nil n0)
      refine own_go st47 ?_
      show own_G p e below _ T47 (mkF m 72 #[.val (.int i0), .val (.int i1), .val (.int (3 : Int32)), .val (.int (1 : Int32)), .val (.ref a_BINSENTBOX), .val (.ref a_SENTBOX), .val (.int (1 : Int32))] [(.int (own_can a_BINSENTBOX a_SENTBOX (1 : Int32) (1 : Int32)))])
      have r47 : (own_can a_BINSENTBOX a_SENTBOX (1 : Int32) (1 : Int32)) = (1 : Int32) := by unfold own_can; rw [if_neg (Fld.ne F_SENTBOX_ordinal F_BINSENTBOX_ordinal (own_neV (by decide))), if_pos (show ((1 : Int32) = (1 : Int32)) by decide)]; rfl
      rw [r47]
      show own_G p e below _ T47 (mkF m 72 #[.val (.int i0), .val (.int i1), .val (.int (3 : Int32)), .val (.int (1 : Int32)), .val (.ref a_BINSENTBOX), .val (.ref a_SENTBOX), .val (.int (1 : Int32))] [(.int (1 : Int32))])
      refine own_go (fun t k => XS.iload X47.here hx rfl (hb hby at_72) rfl k) ?_
      show own_G p e below _ T47 (mkF m 74 #[.val (.int i0), .val (.int i1), .val (.int (3 : Int32)), .val (.int (1 : Int32)), .val (.ref a_BINSENTBOX), .val (.ref a_SENTBOX), .val (.int (1 : Int32))] [(.int (1 : Int32)), (.int (1 : Int32))])
      refine own_go (fun t k => XS.icmpNo X47.here hx rfl (hb hby at_74) rfl (by decide) k) ?_
      show own_G p e below _ T47 (mkF m 77 #[.val (.int i0), .val (.int i1), .val (.int (3 : Int32)), .val (.int (1 : Int32)), .val (.ref a_BINSENTBOX), .val (.ref a_SENTBOX), .val (.int (1 : Int32))] [])
      refine own_go (fun t k => XS.iconst X47.here hx rfl (hb hby at_77) k) ?_
      show own_G p e below _ T47 (mkF m 78 #[.val (.int i0), .val (.int i1), .val (.int (3 : Int32)), .val (.int (1 : Int32)), .val (.ref a_BINSENTBOX), .val (.ref a_SENTBOX), .val (.int (1 : Int32))] [(.int (1 : Int32))])
      refine own_go (fun t k => XS.goto X47.here hx rfl (pc0 := 78) (pc' := 82) rfl (hb hby at_78) (by decide) (by decide) k) ?_
      show own_G p e below _ T47 (mkF m 82 #[.val (.int i0), .val (.int i1), .val (.int (3 : Int32)), .val (.int (1 : Int32)), .val (.ref a_BINSENTBOX), .val (.ref a_SENTBOX), .val (.int (1 : Int32))] [(.int (1 : Int32))])
      exact own_retN X47 hx hlk hret (by simp) (hb hby at_82) (by decide) (by decide) ⟨rfl, N47⟩
    · rw [hk41]
      show own_G p e below _ T0 (mkF m 7 #[.val (.int i0), .val (.int i1), .val (.int (3 : Int32)), .unset, .unset, .unset, .unset] [(.int (2 : Int32))])
      refine own_go (fun t k => XS.istoreN X0.here hx rfl (hb hby at_7) rfl (l' := #[.val (.int i0), .val (.int i1), .val (.int (3 : Int32)), .val (.int (2 : Int32)), .unset, .unset, .unset]) rfl k) ?_
      show own_G p e below _ T0 (mkF m 8 #[.val (.int i0), .val (.int i1), .val (.int (3 : Int32)), .val (.int (2 : Int32)), .unset, .unset, .unset] [])
      refine own_go (fun t k => XS.iloadN X0.here hx rfl (hb hby at_8) rfl k) ?_
      show own_G p e below _ T0 (mkF m 9 #[.val (.int i0), .val (.int i1), .val (.int (3 : Int32)), .val (.int (2 : Int32)), .unset, .unset, .unset] [(.int (3 : Int32))])
      obtain ⟨T48, L48, v48, X48, ⟨rfl, rfl, q48⟩, st48⟩ := own_callS X0 hx hZ (y := (⟨"com/example/willebroek/willebroek/service/mailbox/MailboxFolderCanMoveToPinLaw", "pick", "(I)Lcom/example/willebroek/willebroek/service/mailbox/MailboxFolder;"⟩ : MethodName)) hown (hw _ (List.mem_of_getElem? (i := 0) rfl)) (hw _ (List.mem_of_getElem? (i := 1) rfl)) (hw _ (List.mem_of_getElem? (i := 2) rfl)) (hw _ (List.mem_of_getElem? (i := 3) rfl)) (by decide) (c_pick l Z a0 hw a_INBOX a_BINSENTBOX a_BININBOX a_SENTBOX (3 : Int32) h0 B ) e0 (argsL := [(.int (3 : Int32))]) (rest := []) (g := (mkF m 9 #[.val (.int i0), .val (.int i1), .val (.int (3 : Int32)), .val (.int (2 : Int32)), .unset, .unset, .unset] [(.int (3 : Int32))])) rfl (by rw [hml]; rfl) (ps := [.int]) (r := (some (.object "com/example/willebroek/willebroek/service/mailbox/MailboxFolder"))) (by decide +kernel) rfl rfl (W := 0) (by show 2 * 0 + _ ≤ _; exact Nat.le_of_eq rfl) (hb hby at_9) (by decide) (by decide) (by decide) (by decide)
      have N48 := Fr.app N0 (Fr.nil n0)
      refine own_go st48 ?_
      show own_G p e below _ T48 (mkF m 12 #[.val (.int i0), .val (.int i1), .val (.int (3 : Int32)), .val (.int (2 : Int32)), .unset, .unset, .unset] [(.ref (own_pick a_INBOX a_BINSENTBOX a_BININBOX a_SENTBOX (3 : Int32)))])
      have r48 : (own_pick a_INBOX a_BINSENTBOX a_BININBOX a_SENTBOX (3 : Int32)) = a_BINSENTBOX := by unfold own_pick; rw [if_neg (show ¬ ((3 : Int32) = (0 : Int32)) by decide), if_neg (show ¬ ((3 : Int32) = (1 : Int32)) by decide), if_neg (show ¬ ((3 : Int32) = (2 : Int32)) by decide)]
      rw [r48]
      show own_G p e below _ T48 (mkF m 12 #[.val (.int i0), .val (.int i1), .val (.int (3 : Int32)), .val (.int (2 : Int32)), .unset, .unset, .unset] [(.ref a_BINSENTBOX)])
      refine own_go (fun t k => XS.astore X48.here hx rfl (hb hby at_12) rfl rfl (l' := #[.val (.int i0), .val (.int i1), .val (.int (3 : Int32)), .val (.int (2 : Int32)), .val (.ref a_BINSENTBOX), .unset, .unset]) rfl k) ?_
      show own_G p e below _ T48 (mkF m 14 #[.val (.int i0), .val (.int i1), .val (.int (3 : Int32)), .val (.int (2 : Int32)), .val (.ref a_BINSENTBOX), .unset, .unset] [])
      refine own_go (fun t k => XS.iloadN X48.here hx rfl (hb hby at_14) rfl k) ?_
      show own_G p e below _ T48 (mkF m 15 #[.val (.int i0), .val (.int i1), .val (.int (3 : Int32)), .val (.int (2 : Int32)), .val (.ref a_BINSENTBOX), .unset, .unset] [(.int (2 : Int32))])
      obtain ⟨T49, L49, v49, X49, ⟨rfl, rfl, q49⟩, st49⟩ := own_callS X48 hx hZ (y := (⟨"com/example/willebroek/willebroek/service/mailbox/MailboxFolderCanMoveToPinLaw", "pick", "(I)Lcom/example/willebroek/willebroek/service/mailbox/MailboxFolder;"⟩ : MethodName)) hown (hw _ (List.mem_of_getElem? (i := 0) rfl)) (hw _ (List.mem_of_getElem? (i := 1) rfl)) (hw _ (List.mem_of_getElem? (i := 2) rfl)) (hw _ (List.mem_of_getElem? (i := 3) rfl)) (by decide) (c_pick l Z a0 hw a_INBOX a_BINSENTBOX a_BININBOX a_SENTBOX (2 : Int32) h0 B ) q48 (argsL := [(.int (2 : Int32))]) (rest := []) (g := (mkF m 15 #[.val (.int i0), .val (.int i1), .val (.int (3 : Int32)), .val (.int (2 : Int32)), .val (.ref a_BINSENTBOX), .unset, .unset] [(.int (2 : Int32))])) rfl (by rw [hml]; rfl) (ps := [.int]) (r := (some (.object "com/example/willebroek/willebroek/service/mailbox/MailboxFolder"))) (by decide +kernel) rfl rfl (W := 0) (by show 2 * 0 + _ ≤ _; exact Nat.le_of_eq rfl) (hb hby at_15) (by decide) (by decide) (by decide) (by decide)
      have N49 := Fr.app N48 (Fr.nil n0)
      refine own_go st49 ?_
      show own_G p e below _ T49 (mkF m 18 #[.val (.int i0), .val (.int i1), .val (.int (3 : Int32)), .val (.int (2 : Int32)), .val (.ref a_BINSENTBOX), .unset, .unset] [(.ref (own_pick a_INBOX a_BINSENTBOX a_BININBOX a_SENTBOX (2 : Int32)))])
      have r49 : (own_pick a_INBOX a_BINSENTBOX a_BININBOX a_SENTBOX (2 : Int32)) = a_BININBOX := by unfold own_pick; rw [if_neg (show ¬ ((2 : Int32) = (0 : Int32)) by decide), if_neg (show ¬ ((2 : Int32) = (1 : Int32)) by decide), if_pos (show ((2 : Int32) = (2 : Int32)) by decide)]
      rw [r49]
      show own_G p e below _ T49 (mkF m 18 #[.val (.int i0), .val (.int i1), .val (.int (3 : Int32)), .val (.int (2 : Int32)), .val (.ref a_BINSENTBOX), .unset, .unset] [(.ref a_BININBOX)])
      refine own_go (fun t k => XS.astore X49.here hx rfl (hb hby at_18) rfl rfl (l' := #[.val (.int i0), .val (.int i1), .val (.int (3 : Int32)), .val (.int (2 : Int32)), .val (.ref a_BINSENTBOX), .val (.ref a_BININBOX), .unset]) rfl k) ?_
      show own_G p e below _ T49 (mkF m 20 #[.val (.int i0), .val (.int i1), .val (.int (3 : Int32)), .val (.int (2 : Int32)), .val (.ref a_BINSENTBOX), .val (.ref a_BININBOX), .unset] [])
      refine own_go (fun t k => XS.iloadN X49.here hx rfl (hb hby at_20) rfl k) ?_
      show own_G p e below _ T49 (mkF m 21 #[.val (.int i0), .val (.int i1), .val (.int (3 : Int32)), .val (.int (2 : Int32)), .val (.ref a_BINSENTBOX), .val (.ref a_BININBOX), .unset] [(.int (3 : Int32))])
      refine own_go (fun t k => XS.ifYes X49.here hx rfl (pc0 := 21) (pc' := 29) rfl (hb hby at_21) rfl (by decide) (by decide) (by decide) k) ?_
      show own_G p e below _ T49 (mkF m 29 #[.val (.int i0), .val (.int i1), .val (.int (3 : Int32)), .val (.int (2 : Int32)), .val (.ref a_BINSENTBOX), .val (.ref a_BININBOX), .unset] [])
      refine own_go (fun t k => XS.iloadN X49.here hx rfl (hb hby at_29) rfl k) ?_
      show own_G p e below _ T49 (mkF m 30 #[.val (.int i0), .val (.int i1), .val (.int (3 : Int32)), .val (.int (2 : Int32)), .val (.ref a_BINSENTBOX), .val (.ref a_BININBOX), .unset] [(.int (3 : Int32))])
      refine own_go (fun t k => XS.iconst X49.here hx rfl (hb hby at_30) k) ?_
      show own_G p e below _ T49 (mkF m 31 #[.val (.int i0), .val (.int i1), .val (.int (3 : Int32)), .val (.int (2 : Int32)), .val (.ref a_BINSENTBOX), .val (.ref a_BININBOX), .unset] [(.int (2 : Int32)), (.int (3 : Int32))])
      refine own_go (fun t k => XS.icmpYes X49.here hx rfl (pc0 := 31) (pc' := 38) rfl (hb hby at_31) rfl (by decide) (by decide) (by decide) k) ?_
      show own_G p e below _ T49 (mkF m 38 #[.val (.int i0), .val (.int i1), .val (.int (3 : Int32)), .val (.int (2 : Int32)), .val (.ref a_BINSENTBOX), .val (.ref a_BININBOX), .unset] [])
      refine own_go (fun t k => XS.iloadN X49.here hx rfl (hb hby at_38) rfl k) ?_
      show own_G p e below _ T49 (mkF m 39 #[.val (.int i0), .val (.int i1), .val (.int (3 : Int32)), .val (.int (2 : Int32)), .val (.ref a_BINSENTBOX), .val (.ref a_BININBOX), .unset] [(.int (3 : Int32))])
      refine own_go (fun t k => XS.iconst X49.here hx rfl (hb hby at_39) k) ?_
      show own_G p e below _ T49 (mkF m 40 #[.val (.int i0), .val (.int i1), .val (.int (3 : Int32)), .val (.int (2 : Int32)), .val (.ref a_BINSENTBOX), .val (.ref a_BININBOX), .unset] [(.int (1 : Int32)), (.int (3 : Int32))])
      refine own_go (fun t k => XS.icmpYes X49.here hx rfl (pc0 := 40) (pc' := 48) rfl (hb hby at_40) rfl (by decide) (by decide) (by decide) k) ?_
      show own_G p e below _ T49 (mkF m 48 #[.val (.int i0), .val (.int i1), .val (.int (3 : Int32)), .val (.int (2 : Int32)), .val (.ref a_BINSENTBOX), .val (.ref a_BININBOX), .unset] [])
      refine own_go (fun t k => XS.iloadN X49.here hx rfl (hb hby at_48) rfl k) ?_
      show own_G p e below _ T49 (mkF m 49 #[.val (.int i0), .val (.int i1), .val (.int (3 : Int32)), .val (.int (2 : Int32)), .val (.ref a_BINSENTBOX), .val (.ref a_BININBOX), .unset] [(.int (3 : Int32))])
      refine own_go (fun t k => XS.iconst X49.here hx rfl (hb hby at_49) k) ?_
      show own_G p e below _ T49 (mkF m 50 #[.val (.int i0), .val (.int i1), .val (.int (3 : Int32)), .val (.int (2 : Int32)), .val (.ref a_BINSENTBOX), .val (.ref a_BININBOX), .unset] [(.int (3 : Int32)), (.int (3 : Int32))])
      refine own_go (fun t k => XS.icmpNo X49.here hx rfl (hb hby at_50) rfl (by decide) k) ?_
      show own_G p e below _ T49 (mkF m 53 #[.val (.int i0), .val (.int i1), .val (.int (3 : Int32)), .val (.int (2 : Int32)), .val (.ref a_BINSENTBOX), .val (.ref a_BININBOX), .unset] [])
      refine own_go (fun t k => XS.iloadN X49.here hx rfl (hb hby at_53) rfl k) ?_
      show own_G p e below _ T49 (mkF m 54 #[.val (.int i0), .val (.int i1), .val (.int (3 : Int32)), .val (.int (2 : Int32)), .val (.ref a_BINSENTBOX), .val (.ref a_BININBOX), .unset] [(.int (2 : Int32))])
      refine own_go (fun t k => XS.iconst X49.here hx rfl (hb hby at_54) k) ?_
      show own_G p e below _ T49 (mkF m 55 #[.val (.int i0), .val (.int i1), .val (.int (3 : Int32)), .val (.int (2 : Int32)), .val (.ref a_BINSENTBOX), .val (.ref a_BININBOX), .unset] [(.int (1 : Int32)), (.int (2 : Int32))])
      refine own_go (fun t k => XS.icmpYes X49.here hx rfl (pc0 := 55) (pc' := 62) rfl (hb hby at_55) rfl (by decide) (by decide) (by decide) k) ?_
      show own_G p e below _ T49 (mkF m 62 #[.val (.int i0), .val (.int i1), .val (.int (3 : Int32)), .val (.int (2 : Int32)), .val (.ref a_BINSENTBOX), .val (.ref a_BININBOX), .unset] [])
      refine own_go (fun t k => XS.iconst X49.here hx rfl (hb hby at_62) k) ?_
      show own_G p e below _ T49 (mkF m 63 #[.val (.int i0), .val (.int i1), .val (.int (3 : Int32)), .val (.int (2 : Int32)), .val (.ref a_BINSENTBOX), .val (.ref a_BININBOX), .unset] [(.int (0 : Int32))])
      refine own_go (fun t k => XS.istore X49.here hx rfl (hb hby at_63) rfl (l' := #[.val (.int i0), .val (.int i1), .val (.int (3 : Int32)), .val (.int (2 : Int32)), .val (.ref a_BINSENTBOX), .val (.ref a_BININBOX), .val (.int (0 : Int32))]) rfl k) ?_
      show own_G p e below _ T49 (mkF m 65 #[.val (.int i0), .val (.int i1), .val (.int (3 : Int32)), .val (.int (2 : Int32)), .val (.ref a_BINSENTBOX), .val (.ref a_BININBOX), .val (.int (0 : Int32))] [])
      refine own_go (fun t k => XS.aload X49.here hx rfl (hb hby at_65) rfl rfl k) ?_
      show own_G p e below _ T49 (mkF m 67 #[.val (.int i0), .val (.int i1), .val (.int (3 : Int32)), .val (.int (2 : Int32)), .val (.ref a_BINSENTBOX), .val (.ref a_BININBOX), .val (.int (0 : Int32))] [(.ref a_BINSENTBOX)])
      refine own_go (fun t k => XS.aload X49.here hx rfl (hb hby at_67) rfl rfl k) ?_
      show own_G p e below _ T49 (mkF m 69 #[.val (.int i0), .val (.int i1), .val (.int (3 : Int32)), .val (.int (2 : Int32)), .val (.ref a_BINSENTBOX), .val (.ref a_BININBOX), .val (.int (0 : Int32))] [(.ref a_BININBOX), (.ref a_BINSENTBOX)])
      obtain ⟨T50, L50, v50, X50, ⟨rfl, rfl, q50⟩, st50⟩ := own_callV X49 hx hZ (y := (⟨"com/example/willebroek/willebroek/service/mailbox/MailboxFolder", "canMoveTo", "(Lcom/example/willebroek/willebroek/service/mailbox/MailboxFolder;)Z"⟩ : MethodName)) (z := (⟨"com/example/willebroek/willebroek/service/mailbox/MailboxFolder", "canMoveTo", "(Lcom/example/willebroek/willebroek/service/mailbox/MailboxFolder;)Z"⟩ : MethodName)) hown (hw _ (List.mem_of_getElem? (i := 9) rfl)) (hw _ (List.mem_of_getElem? (i := 10) rfl)) (hw _ (List.mem_of_getElem? (i := 12) rfl)) (hw _ (List.mem_of_getElem? (i := 12) rfl)) (hw _ (List.mem_of_getElem? (i := 11) rfl)) (hw _ (List.mem_of_getElem? (i := 13) rfl)) (hw _ (List.mem_of_getElem? (i := 5) rfl)) (notFace_of_selects (args := #[]) (mvT hZ (hw _ (List.mem_of_getElem? (i := 12) rfl)))) (by decide) (c_can l Z a0 hw a_BINSENTBOX a_BININBOX (1 : Int32) (0 : Int32) h0  F_BINSENTBOX_sent F_BININBOX_sent) q49 E_BINSENTBOX (argsL := [(.ref a_BININBOX)]) (rest := []) (g := (mkF m 69 #[.val (.int i0), .val (.int i1), .val (.int (3 : Int32)), .val (.int (2 : Int32)), .val (.ref a_BINSENTBOX), .val (.ref a_BININBOX), .val (.int (0 : Int32))] [(.ref a_BININBOX), (.ref a_BINSENTBOX)])) rfl (by rw [hml]; rfl) (ps := [(.object "com/example/willebroek/willebroek/service/mailbox/MailboxFolder")]) (r := (some .boolean)) (by decide +kernel) rfl rfl (W := 0) (by show 2 * 0 + _ ≤ _; exact Nat.le_of_eq rfl) (hb hby at_69) (by decide) (by decide) (by decide) (by decide)
      have N50 := Fr.app N49 (Fr.nil n0)
      refine own_go st50 ?_
      show own_G p e below _ T50 (mkF m 72 #[.val (.int i0), .val (.int i1), .val (.int (3 : Int32)), .val (.int (2 : Int32)), .val (.ref a_BINSENTBOX), .val (.ref a_BININBOX), .val (.int (0 : Int32))] [(.int (own_can a_BINSENTBOX a_BININBOX (1 : Int32) (0 : Int32)))])
      have r50 : (own_can a_BINSENTBOX a_BININBOX (1 : Int32) (0 : Int32)) = (0 : Int32) := by unfold own_can; rw [if_neg (Fld.ne F_BININBOX_ordinal F_BINSENTBOX_ordinal (own_neV (by decide))), if_neg (show ¬ ((0 : Int32) = (1 : Int32)) by decide)]; rfl
      rw [r50]
      show own_G p e below _ T50 (mkF m 72 #[.val (.int i0), .val (.int i1), .val (.int (3 : Int32)), .val (.int (2 : Int32)), .val (.ref a_BINSENTBOX), .val (.ref a_BININBOX), .val (.int (0 : Int32))] [(.int (0 : Int32))])
      refine own_go (fun t k => XS.iload X50.here hx rfl (hb hby at_72) rfl k) ?_
      show own_G p e below _ T50 (mkF m 74 #[.val (.int i0), .val (.int i1), .val (.int (3 : Int32)), .val (.int (2 : Int32)), .val (.ref a_BINSENTBOX), .val (.ref a_BININBOX), .val (.int (0 : Int32))] [(.int (0 : Int32)), (.int (0 : Int32))])
      refine own_go (fun t k => XS.icmpNo X50.here hx rfl (hb hby at_74) rfl (by decide) k) ?_
      show own_G p e below _ T50 (mkF m 77 #[.val (.int i0), .val (.int i1), .val (.int (3 : Int32)), .val (.int (2 : Int32)), .val (.ref a_BINSENTBOX), .val (.ref a_BININBOX), .val (.int (0 : Int32))] [])
      refine own_go (fun t k => XS.iconst X50.here hx rfl (hb hby at_77) k) ?_
      show own_G p e below _ T50 (mkF m 78 #[.val (.int i0), .val (.int i1), .val (.int (3 : Int32)), .val (.int (2 : Int32)), .val (.ref a_BINSENTBOX), .val (.ref a_BININBOX), .val (.int (0 : Int32))] [(.int (1 : Int32))])
      refine own_go (fun t k => XS.goto X50.here hx rfl (pc0 := 78) (pc' := 82) rfl (hb hby at_78) (by decide) (by decide) k) ?_
      show own_G p e below _ T50 (mkF m 82 #[.val (.int i0), .val (.int i1), .val (.int (3 : Int32)), .val (.int (2 : Int32)), .val (.ref a_BINSENTBOX), .val (.ref a_BININBOX), .val (.int (0 : Int32))] [(.int (1 : Int32))])
      exact own_retN X50 hx hlk hret (by simp) (hb hby at_82) (by decide) (by decide) ⟨rfl, N50⟩
    · rw [hk41]
      show own_G p e below _ T0 (mkF m 7 #[.val (.int i0), .val (.int i1), .val (.int (3 : Int32)), .unset, .unset, .unset, .unset] [(.int (3 : Int32))])
      refine own_go (fun t k => XS.istoreN X0.here hx rfl (hb hby at_7) rfl (l' := #[.val (.int i0), .val (.int i1), .val (.int (3 : Int32)), .val (.int (3 : Int32)), .unset, .unset, .unset]) rfl k) ?_
      show own_G p e below _ T0 (mkF m 8 #[.val (.int i0), .val (.int i1), .val (.int (3 : Int32)), .val (.int (3 : Int32)), .unset, .unset, .unset] [])
      refine own_go (fun t k => XS.iloadN X0.here hx rfl (hb hby at_8) rfl k) ?_
      show own_G p e below _ T0 (mkF m 9 #[.val (.int i0), .val (.int i1), .val (.int (3 : Int32)), .val (.int (3 : Int32)), .unset, .unset, .unset] [(.int (3 : Int32))])
      obtain ⟨T51, L51, v51, X51, ⟨rfl, rfl, q51⟩, st51⟩ := own_callS X0 hx hZ (y := (⟨"com/example/willebroek/willebroek/service/mailbox/MailboxFolderCanMoveToPinLaw", "pick", "(I)Lcom/example/willebroek/willebroek/service/mailbox/MailboxFolder;"⟩ : MethodName)) hown (hw _ (List.mem_of_getElem? (i := 0) rfl)) (hw _ (List.mem_of_getElem? (i := 1) rfl)) (hw _ (List.mem_of_getElem? (i := 2) rfl)) (hw _ (List.mem_of_getElem? (i := 3) rfl)) (by decide) (c_pick l Z a0 hw a_INBOX a_BINSENTBOX a_BININBOX a_SENTBOX (3 : Int32) h0 B ) e0 (argsL := [(.int (3 : Int32))]) (rest := []) (g := (mkF m 9 #[.val (.int i0), .val (.int i1), .val (.int (3 : Int32)), .val (.int (3 : Int32)), .unset, .unset, .unset] [(.int (3 : Int32))])) rfl (by rw [hml]; rfl) (ps := [.int]) (r := (some (.object "com/example/willebroek/willebroek/service/mailbox/MailboxFolder"))) (by decide +kernel) rfl rfl (W := 0) (by show 2 * 0 + _ ≤ _; exact Nat.le_of_eq rfl) (hb hby at_9) (by decide) (by decide) (by decide) (by decide)
      have N51 := Fr.app N0 (Fr.nil n0)
      refine own_go st51 ?_
      show own_G p e below _ T51 (mkF m 12 #[.val (.int i0), .val (.int i1), .val (.int (3 : Int32)), .val (.int (3 : Int32)), .unset, .unset, .unset] [(.ref (own_pick a_INBOX a_BINSENTBOX a_BININBOX a_SENTBOX (3 : Int32)))])
      have r51 : (own_pick a_INBOX a_BINSENTBOX a_BININBOX a_SENTBOX (3 : Int32)) = a_BINSENTBOX := by unfold own_pick; rw [if_neg (show ¬ ((3 : Int32) = (0 : Int32)) by decide), if_neg (show ¬ ((3 : Int32) = (1 : Int32)) by decide), if_neg (show ¬ ((3 : Int32) = (2 : Int32)) by decide)]
      rw [r51]
      show own_G p e below _ T51 (mkF m 12 #[.val (.int i0), .val (.int i1), .val (.int (3 : Int32)), .val (.int (3 : Int32)), .unset, .unset, .unset] [(.ref a_BINSENTBOX)])
      refine own_go (fun t k => XS.astore X51.here hx rfl (hb hby at_12) rfl rfl (l' := #[.val (.int i0), .val (.int i1), .val (.int (3 : Int32)), .val (.int (3 : Int32)), .val (.ref a_BINSENTBOX), .unset, .unset]) rfl k) ?_
      show own_G p e below _ T51 (mkF m 14 #[.val (.int i0), .val (.int i1), .val (.int (3 : Int32)), .val (.int (3 : Int32)), .val (.ref a_BINSENTBOX), .unset, .unset] [])
      refine own_go (fun t k => XS.iloadN X51.here hx rfl (hb hby at_14) rfl k) ?_
      show own_G p e below _ T51 (mkF m 15 #[.val (.int i0), .val (.int i1), .val (.int (3 : Int32)), .val (.int (3 : Int32)), .val (.ref a_BINSENTBOX), .unset, .unset] [(.int (3 : Int32))])
      obtain ⟨T52, L52, v52, X52, ⟨rfl, rfl, q52⟩, st52⟩ := own_callS X51 hx hZ (y := (⟨"com/example/willebroek/willebroek/service/mailbox/MailboxFolderCanMoveToPinLaw", "pick", "(I)Lcom/example/willebroek/willebroek/service/mailbox/MailboxFolder;"⟩ : MethodName)) hown (hw _ (List.mem_of_getElem? (i := 0) rfl)) (hw _ (List.mem_of_getElem? (i := 1) rfl)) (hw _ (List.mem_of_getElem? (i := 2) rfl)) (hw _ (List.mem_of_getElem? (i := 3) rfl)) (by decide) (c_pick l Z a0 hw a_INBOX a_BINSENTBOX a_BININBOX a_SENTBOX (3 : Int32) h0 B ) q51 (argsL := [(.int (3 : Int32))]) (rest := []) (g := (mkF m 15 #[.val (.int i0), .val (.int i1), .val (.int (3 : Int32)), .val (.int (3 : Int32)), .val (.ref a_BINSENTBOX), .unset, .unset] [(.int (3 : Int32))])) rfl (by rw [hml]; rfl) (ps := [.int]) (r := (some (.object "com/example/willebroek/willebroek/service/mailbox/MailboxFolder"))) (by decide +kernel) rfl rfl (W := 0) (by show 2 * 0 + _ ≤ _; exact Nat.le_of_eq rfl) (hb hby at_15) (by decide) (by decide) (by decide) (by decide)
      have N52 := Fr.app N51 (Fr.nil n0)
      refine own_go st52 ?_
      show own_G p e below _ T52 (mkF m 18 #[.val (.int i0), .val (.int i1), .val (.int (3 : Int32)), .val (.int (3 : Int32)), .val (.ref a_BINSENTBOX), .unset, .unset] [(.ref (own_pick a_INBOX a_BINSENTBOX a_BININBOX a_SENTBOX (3 : Int32)))])
      have r52 : (own_pick a_INBOX a_BINSENTBOX a_BININBOX a_SENTBOX (3 : Int32)) = a_BINSENTBOX := by unfold own_pick; rw [if_neg (show ¬ ((3 : Int32) = (0 : Int32)) by decide), if_neg (show ¬ ((3 : Int32) = (1 : Int32)) by decide), if_neg (show ¬ ((3 : Int32) = (2 : Int32)) by decide)]
      rw [r52]
      show own_G p e below _ T52 (mkF m 18 #[.val (.int i0), .val (.int i1), .val (.int (3 : Int32)), .val (.int (3 : Int32)), .val (.ref a_BINSENTBOX), .unset, .unset] [(.ref a_BINSENTBOX)])
      refine own_go (fun t k => XS.astore X52.here hx rfl (hb hby at_18) rfl rfl (l' := #[.val (.int i0), .val (.int i1), .val (.int (3 : Int32)), .val (.int (3 : Int32)), .val (.ref a_BINSENTBOX), .val (.ref a_BINSENTBOX), .unset]) rfl k) ?_
      show own_G p e below _ T52 (mkF m 20 #[.val (.int i0), .val (.int i1), .val (.int (3 : Int32)), .val (.int (3 : Int32)), .val (.ref a_BINSENTBOX), .val (.ref a_BINSENTBOX), .unset] [])
      refine own_go (fun t k => XS.iloadN X52.here hx rfl (hb hby at_20) rfl k) ?_
      show own_G p e below _ T52 (mkF m 21 #[.val (.int i0), .val (.int i1), .val (.int (3 : Int32)), .val (.int (3 : Int32)), .val (.ref a_BINSENTBOX), .val (.ref a_BINSENTBOX), .unset] [(.int (3 : Int32))])
      refine own_go (fun t k => XS.ifYes X52.here hx rfl (pc0 := 21) (pc' := 29) rfl (hb hby at_21) rfl (by decide) (by decide) (by decide) k) ?_
      show own_G p e below _ T52 (mkF m 29 #[.val (.int i0), .val (.int i1), .val (.int (3 : Int32)), .val (.int (3 : Int32)), .val (.ref a_BINSENTBOX), .val (.ref a_BINSENTBOX), .unset] [])
      refine own_go (fun t k => XS.iloadN X52.here hx rfl (hb hby at_29) rfl k) ?_
      show own_G p e below _ T52 (mkF m 30 #[.val (.int i0), .val (.int i1), .val (.int (3 : Int32)), .val (.int (3 : Int32)), .val (.ref a_BINSENTBOX), .val (.ref a_BINSENTBOX), .unset] [(.int (3 : Int32))])
      refine own_go (fun t k => XS.iconst X52.here hx rfl (hb hby at_30) k) ?_
      show own_G p e below _ T52 (mkF m 31 #[.val (.int i0), .val (.int i1), .val (.int (3 : Int32)), .val (.int (3 : Int32)), .val (.ref a_BINSENTBOX), .val (.ref a_BINSENTBOX), .unset] [(.int (2 : Int32)), (.int (3 : Int32))])
      refine own_go (fun t k => XS.icmpYes X52.here hx rfl (pc0 := 31) (pc' := 38) rfl (hb hby at_31) rfl (by decide) (by decide) (by decide) k) ?_
      show own_G p e below _ T52 (mkF m 38 #[.val (.int i0), .val (.int i1), .val (.int (3 : Int32)), .val (.int (3 : Int32)), .val (.ref a_BINSENTBOX), .val (.ref a_BINSENTBOX), .unset] [])
      refine own_go (fun t k => XS.iloadN X52.here hx rfl (hb hby at_38) rfl k) ?_
      show own_G p e below _ T52 (mkF m 39 #[.val (.int i0), .val (.int i1), .val (.int (3 : Int32)), .val (.int (3 : Int32)), .val (.ref a_BINSENTBOX), .val (.ref a_BINSENTBOX), .unset] [(.int (3 : Int32))])
      refine own_go (fun t k => XS.iconst X52.here hx rfl (hb hby at_39) k) ?_
      show own_G p e below _ T52 (mkF m 40 #[.val (.int i0), .val (.int i1), .val (.int (3 : Int32)), .val (.int (3 : Int32)), .val (.ref a_BINSENTBOX), .val (.ref a_BINSENTBOX), .unset] [(.int (1 : Int32)), (.int (3 : Int32))])
      refine own_go (fun t k => XS.icmpYes X52.here hx rfl (pc0 := 40) (pc' := 48) rfl (hb hby at_40) rfl (by decide) (by decide) (by decide) k) ?_
      show own_G p e below _ T52 (mkF m 48 #[.val (.int i0), .val (.int i1), .val (.int (3 : Int32)), .val (.int (3 : Int32)), .val (.ref a_BINSENTBOX), .val (.ref a_BINSENTBOX), .unset] [])
      refine own_go (fun t k => XS.iloadN X52.here hx rfl (hb hby at_48) rfl k) ?_
      show own_G p e below _ T52 (mkF m 49 #[.val (.int i0), .val (.int i1), .val (.int (3 : Int32)), .val (.int (3 : Int32)), .val (.ref a_BINSENTBOX), .val (.ref a_BINSENTBOX), .unset] [(.int (3 : Int32))])
      refine own_go (fun t k => XS.iconst X52.here hx rfl (hb hby at_49) k) ?_
      show own_G p e below _ T52 (mkF m 50 #[.val (.int i0), .val (.int i1), .val (.int (3 : Int32)), .val (.int (3 : Int32)), .val (.ref a_BINSENTBOX), .val (.ref a_BINSENTBOX), .unset] [(.int (3 : Int32)), (.int (3 : Int32))])
      refine own_go (fun t k => XS.icmpNo X52.here hx rfl (hb hby at_50) rfl (by decide) k) ?_
      show own_G p e below _ T52 (mkF m 53 #[.val (.int i0), .val (.int i1), .val (.int (3 : Int32)), .val (.int (3 : Int32)), .val (.ref a_BINSENTBOX), .val (.ref a_BINSENTBOX), .unset] [])
      refine own_go (fun t k => XS.iloadN X52.here hx rfl (hb hby at_53) rfl k) ?_
      show own_G p e below _ T52 (mkF m 54 #[.val (.int i0), .val (.int i1), .val (.int (3 : Int32)), .val (.int (3 : Int32)), .val (.ref a_BINSENTBOX), .val (.ref a_BINSENTBOX), .unset] [(.int (3 : Int32))])
      refine own_go (fun t k => XS.iconst X52.here hx rfl (hb hby at_54) k) ?_
      show own_G p e below _ T52 (mkF m 55 #[.val (.int i0), .val (.int i1), .val (.int (3 : Int32)), .val (.int (3 : Int32)), .val (.ref a_BINSENTBOX), .val (.ref a_BINSENTBOX), .unset] [(.int (1 : Int32)), (.int (3 : Int32))])
      refine own_go (fun t k => XS.icmpYes X52.here hx rfl (pc0 := 55) (pc' := 62) rfl (hb hby at_55) rfl (by decide) (by decide) (by decide) k) ?_
      show own_G p e below _ T52 (mkF m 62 #[.val (.int i0), .val (.int i1), .val (.int (3 : Int32)), .val (.int (3 : Int32)), .val (.ref a_BINSENTBOX), .val (.ref a_BINSENTBOX), .unset] [])
      refine own_go (fun t k => XS.iconst X52.here hx rfl (hb hby at_62) k) ?_
      show own_G p e below _ T52 (mkF m 63 #[.val (.int i0), .val (.int i1), .val (.int (3 : Int32)), .val (.int (3 : Int32)), .val (.ref a_BINSENTBOX), .val (.ref a_BINSENTBOX), .unset] [(.int (0 : Int32))])
      refine own_go (fun t k => XS.istore X52.here hx rfl (hb hby at_63) rfl (l' := #[.val (.int i0), .val (.int i1), .val (.int (3 : Int32)), .val (.int (3 : Int32)), .val (.ref a_BINSENTBOX), .val (.ref a_BINSENTBOX), .val (.int (0 : Int32))]) rfl k) ?_
      show own_G p e below _ T52 (mkF m 65 #[.val (.int i0), .val (.int i1), .val (.int (3 : Int32)), .val (.int (3 : Int32)), .val (.ref a_BINSENTBOX), .val (.ref a_BINSENTBOX), .val (.int (0 : Int32))] [])
      refine own_go (fun t k => XS.aload X52.here hx rfl (hb hby at_65) rfl rfl k) ?_
      show own_G p e below _ T52 (mkF m 67 #[.val (.int i0), .val (.int i1), .val (.int (3 : Int32)), .val (.int (3 : Int32)), .val (.ref a_BINSENTBOX), .val (.ref a_BINSENTBOX), .val (.int (0 : Int32))] [(.ref a_BINSENTBOX)])
      refine own_go (fun t k => XS.aload X52.here hx rfl (hb hby at_67) rfl rfl k) ?_
      show own_G p e below _ T52 (mkF m 69 #[.val (.int i0), .val (.int i1), .val (.int (3 : Int32)), .val (.int (3 : Int32)), .val (.ref a_BINSENTBOX), .val (.ref a_BINSENTBOX), .val (.int (0 : Int32))] [(.ref a_BINSENTBOX), (.ref a_BINSENTBOX)])
      obtain ⟨T53, L53, v53, X53, ⟨rfl, rfl, q53⟩, st53⟩ := own_callV X52 hx hZ (y := (⟨"com/example/willebroek/willebroek/service/mailbox/MailboxFolder", "canMoveTo", "(Lcom/example/willebroek/willebroek/service/mailbox/MailboxFolder;)Z"⟩ : MethodName)) (z := (⟨"com/example/willebroek/willebroek/service/mailbox/MailboxFolder", "canMoveTo", "(Lcom/example/willebroek/willebroek/service/mailbox/MailboxFolder;)Z"⟩ : MethodName)) hown (hw _ (List.mem_of_getElem? (i := 9) rfl)) (hw _ (List.mem_of_getElem? (i := 10) rfl)) (hw _ (List.mem_of_getElem? (i := 12) rfl)) (hw _ (List.mem_of_getElem? (i := 12) rfl)) (hw _ (List.mem_of_getElem? (i := 11) rfl)) (hw _ (List.mem_of_getElem? (i := 13) rfl)) (hw _ (List.mem_of_getElem? (i := 5) rfl)) (notFace_of_selects (args := #[]) (mvT hZ (hw _ (List.mem_of_getElem? (i := 12) rfl)))) (by decide) (c_can l Z a0 hw a_BINSENTBOX a_BINSENTBOX (1 : Int32) (1 : Int32) h0  F_BINSENTBOX_sent F_BINSENTBOX_sent) q52 E_BINSENTBOX (argsL := [(.ref a_BINSENTBOX)]) (rest := []) (g := (mkF m 69 #[.val (.int i0), .val (.int i1), .val (.int (3 : Int32)), .val (.int (3 : Int32)), .val (.ref a_BINSENTBOX), .val (.ref a_BINSENTBOX), .val (.int (0 : Int32))] [(.ref a_BINSENTBOX), (.ref a_BINSENTBOX)])) rfl (by rw [hml]; rfl) (ps := [(.object "com/example/willebroek/willebroek/service/mailbox/MailboxFolder")]) (r := (some .boolean)) (by decide +kernel) rfl rfl (W := 0) (by show 2 * 0 + _ ≤ _; exact Nat.le_of_eq rfl) (hb hby at_69) (by decide) (by decide) (by decide) (by decide)
      have N53 := Fr.app N52 (Fr.nil n0)
      refine own_go st53 ?_
      show own_G p e below _ T53 (mkF m 72 #[.val (.int i0), .val (.int i1), .val (.int (3 : Int32)), .val (.int (3 : Int32)), .val (.ref a_BINSENTBOX), .val (.ref a_BINSENTBOX), .val (.int (0 : Int32))] [(.int (own_can a_BINSENTBOX a_BINSENTBOX (1 : Int32) (1 : Int32)))])
      have r53 : (own_can a_BINSENTBOX a_BINSENTBOX (1 : Int32) (1 : Int32)) = (0 : Int32) := by unfold own_can; rw [if_pos (rfl : a_BINSENTBOX = a_BINSENTBOX)]; rfl
      rw [r53]
      show own_G p e below _ T53 (mkF m 72 #[.val (.int i0), .val (.int i1), .val (.int (3 : Int32)), .val (.int (3 : Int32)), .val (.ref a_BINSENTBOX), .val (.ref a_BINSENTBOX), .val (.int (0 : Int32))] [(.int (0 : Int32))])
      refine own_go (fun t k => XS.iload X53.here hx rfl (hb hby at_72) rfl k) ?_
      show own_G p e below _ T53 (mkF m 74 #[.val (.int i0), .val (.int i1), .val (.int (3 : Int32)), .val (.int (3 : Int32)), .val (.ref a_BINSENTBOX), .val (.ref a_BINSENTBOX), .val (.int (0 : Int32))] [(.int (0 : Int32)), (.int (0 : Int32))])
      refine own_go (fun t k => XS.icmpNo X53.here hx rfl (hb hby at_74) rfl (by decide) k) ?_
      show own_G p e below _ T53 (mkF m 77 #[.val (.int i0), .val (.int i1), .val (.int (3 : Int32)), .val (.int (3 : Int32)), .val (.ref a_BINSENTBOX), .val (.ref a_BINSENTBOX), .val (.int (0 : Int32))] [])
      refine own_go (fun t k => XS.iconst X53.here hx rfl (hb hby at_77) k) ?_
      show own_G p e below _ T53 (mkF m 78 #[.val (.int i0), .val (.int i1), .val (.int (3 : Int32)), .val (.int (3 : Int32)), .val (.ref a_BINSENTBOX), .val (.ref a_BINSENTBOX), .val (.int (0 : Int32))] [(.int (1 : Int32))])
      refine own_go (fun t k => XS.goto X53.here hx rfl (pc0 := 78) (pc' := 82) rfl (hb hby at_78) (by decide) (by decide) k) ?_
      show own_G p e below _ T53 (mkF m 82 #[.val (.int i0), .val (.int i1), .val (.int (3 : Int32)), .val (.int (3 : Int32)), .val (.ref a_BINSENTBOX), .val (.ref a_BINSENTBOX), .val (.int (0 : Int32))] [(.int (1 : Int32))])
      exact own_retN X53 hx hlk hret (by simp) (hb hby at_82) (by decide) (by decide) ⟨rfl, N53⟩
set_option maxRecDepth 65536 in
set_option maxHeartbeats 40000000 in
theorem comes_1 {Post : Tables → Env → Array Value → State → Outcome → State → Prop} (hpost : ∀ tb e args s v u, (limb_1_1.after args s (.returned v) u = true ∧ limb_1_2.after args s (.returned v) u = true ∧ True) → FrameEnd s (.returned v) u (Jvm.fieldLocs frame_1_writes args s ++ Jvm.arrayLocs frame_1_arrays args s ++ Jvm.staticLocs frame_1_statics s) 0 0 → Post tb e args s (.returned v) u) :
    ArmFor flags0 classFile x code maxLocals ret World_1 tables_1 room_1 Calls_1 rest_1 Pre_1 Post := by
  intro l hfl _ _ p e ha hc hk s m args below hf hA hF happ hP
  obtain ⟨hcalls, hrest, hpre⟩ := hP
  obtain ⟨-, -, -, hnamed, -, -, -, hat⟩ := (Spec.applies_iff hf).mp happ
  obtain ⟨hg, hn⟩ := and_e (Cond.before_iff.mp (show (Jvm.Cond.and given_1 narrow_1).before args s = true from hpre))
  obtain ⟨h1, hg⟩ := and_e hg
  obtain ⟨w0, w1, rfl⟩ : ∃ w0 w1 : Value, args = #[w0, w1] := by
    have hs : args.size = 2 := by simpa [Cond.value, given_1] using h1
    obtain ⟨L⟩ := args
    match L, hs with
    | [w0, w1], _ => exact ⟨w0, w1, rfl⟩
  obtain ⟨hi0, hg⟩ := and_e hg
  obtain ⟨i0, ei0⟩ := is_v hi0
  obtain rfl : w0 = (.int i0) := Option.some.inj ei0
  obtain ⟨i1, ei1⟩ := is_v hg
  obtain rfl : w1 = (.int i1) := Option.some.inj ei1
  have hw := fun d (hd : d ∈ tables_1) => atoms_spec (ws := Jvm.Cond.code x code maxLocals ret :: tables_1) hat d (List.mem_cons_of_mem _ hd)
  obtain ⟨n0, hn⟩ := and_e hn
  obtain ⟨a_INBOX, v_INBOX⟩ := exa_v n0
  have S_INBOX := Sta.start v_INBOX (Or.inr ⟨(hw _ (List.mem_of_getElem? (i := 5) rfl)), (hw _ (List.mem_of_getElem? (i := 6) rfl))⟩)
  have E_INBOX := Exa.start v_INBOX n0
  obtain ⟨n1, hn⟩ := and_e hn
  obtain ⟨a_BINSENTBOX, v_BINSENTBOX⟩ := exa_v n1
  have S_BINSENTBOX := Sta.start v_BINSENTBOX (Or.inr ⟨(hw _ (List.mem_of_getElem? (i := 5) rfl)), (hw _ (List.mem_of_getElem? (i := 8) rfl))⟩)
  have E_BINSENTBOX := Exa.start v_BINSENTBOX n1
  obtain ⟨n2, hn⟩ := and_e hn
  have F_BINSENTBOX_ordinal := own_fld v_BINSENTBOX n2
  obtain ⟨n3, hn⟩ := and_e hn
  have F_INBOX_ordinal := own_fld v_INBOX n3
  obtain ⟨n4, hn⟩ := and_e hn
  have F_BINSENTBOX_sent := own_fld v_BINSENTBOX n4
  obtain ⟨n5, hn⟩ := and_e hn
  have F_INBOX_sent := own_fld v_INBOX n5
  obtain ⟨n6, hn⟩ := and_e hn
  obtain ⟨a_BININBOX, v_BININBOX⟩ := exa_v n6
  have S_BININBOX := Sta.start v_BININBOX (Or.inr ⟨(hw _ (List.mem_of_getElem? (i := 5) rfl)), (hw _ (List.mem_of_getElem? (i := 17) rfl))⟩)
  have E_BININBOX := Exa.start v_BININBOX n6
  obtain ⟨n7, hn⟩ := and_e hn
  obtain ⟨a_SENTBOX, v_SENTBOX⟩ := exa_v n7
  have S_SENTBOX := Sta.start v_SENTBOX (Or.inr ⟨(hw _ (List.mem_of_getElem? (i := 5) rfl)), (hw _ (List.mem_of_getElem? (i := 19) rfl))⟩)
  have E_SENTBOX := Exa.start v_SENTBOX n7
  obtain ⟨n8, hn⟩ := and_e hn
  have F_SENTBOX_ordinal := own_fld v_SENTBOX n8
  obtain ⟨n9, hn⟩ := and_e hn
  have F_BININBOX_ordinal := own_fld v_BININBOX n9
  obtain ⟨n10, hn⟩ := and_e hn
  have F_SENTBOX_sent := own_fld v_SENTBOX n10
  have F_BININBOX_sent := own_fld v_BININBOX hn
  have B : own_B s s.heap a_INBOX a_BINSENTBOX a_BININBOX a_SENTBOX := ⟨S_INBOX, E_INBOX, S_BINSENTBOX, E_BINSENTBOX, F_BINSENTBOX_ordinal, F_INBOX_ordinal, F_BINSENTBOX_sent, F_INBOX_sent, S_BININBOX, E_BININBOX, S_SENTBOX, E_SENTBOX, F_SENTBOX_ordinal, F_BININBOX_ordinal, F_SENTBOX_sent, F_BININBOX_sent⟩
  obtain ⟨n, o, h1, h2, h3, _, L, rfl, ⟨rfl, N⟩, hq⟩ := rm0 l s _ hw i0 i1 a_INBOX a_BINSENTBOX a_BININBOX a_SENTBOX s.heap s.heap.size (Nat.le_refl _) B tables_1 p e ha hc hk s m _ below hf ((Spec.applies_iff_loose hf).mp happ).1 ⟨rfl, State.Warmed39.refl s, rfl⟩ trivial
  refine ⟨n, _, h1, h2, h3, hpost _ _ _ _ _ _ ⟨Jvm.Cond.after_iff.mpr rfl, Jvm.Cond.after_iff.mpr (eq_i res_at (Term.int_eval (1)) rfl), trivial⟩ ⟨hq.1, hq.2.1, (hq.2.2.sift fun y hy => Or.inr (N y hy)).mono (by decide) (by decide)⟩⟩
theorem main_1_1 : Claimed_1_1 := comes_1 fun _ _ _ _ _ _ h hF => ⟨h.1, hF⟩
theorem main_1_2 : Claimed_1_2 := comes_1 fun _ _ _ _ _ _ h hF => ⟨h.2.1, hF⟩
end Jvm.Pilot.@@N@@
namespace Jvm.Pilot.@@N@@
open Jvm Jvm.ClassFile Sem Op Lib Jvm.Free Jvm.Stand Jvm.Pilot.@@N@@.Jvm.D
/-! MADE BY PROGRAM (witnessworld.py) out of the Statement's table words and the real class files: 12 classes; the members and pool entries that the words name. The judged class is class 1, her method 2. -/
namespace start1
open Jvm.ClassFile
def u (s : String) : CpInfo := .utf8 (stringToUtf16 s)
/-- a pool by its gaps: so many unusable entries, then the entry; so many at the end -/
def gap : Nat → List CpInfo → List CpInfo
  | 0, r => r
  | n + 1, r => .unusable :: gap n r
def poolList (es : List (Nat × CpInfo)) (last : Nat) : List CpInfo := es.foldr (fun e r => gap e.1 (e.2 :: r)) (gap last [])
def pool (es : List (Nat × CpInfo)) (last : Nat) : Array CpInfo := ⟨poolList es last⟩
def fileOf (pool : Array CpInfo) (this : Nat) (attrs : Array Attribute := #[]) (ms : Array MethodInfo := #[]) (fl : Nat := 33) (sup : Nat := 0) (ifs : Array Nat := #[]) (fds : Array FieldInfo := #[]) : ClassFile where
  minorVersion := 0
  majorVersion := 65
  constantPool := pool
  accessFlags := fl
  thisClass := this
  superClass := sup
  interfaces := ifs
  fields := fds
  methods := ms
  attributes := attrs
def plain (name : String) (sup : Option ClassId) : Class where
  name := name
  kind := .ordinary
  loader := none
  accessFlags := 33
  super := sup
  interfaces := #[]
  cf := none
  fields := #[]
  methods := #[]
  instanceTypes := #[]
  staticTypes := #[]
  resolved := #[]
  callSites := []
  init := .initialized
  statics := none
  mirror := none

def pool0 : Array CpInfo := pool [(5, u "<init>"), (0, u "()V"), (1, .class_ 10), (1, u "java/lang/Object")] 113

def k0m0 : Method := { name := "<init>", desc := "()V", sig := { parameters := [], returnType := none }, accessFlags := 1, code := none }
/-- java/lang/Object -/
def k0 : Class := { plain "java/lang/Object" none with
  accessFlags := 33
  interfaces := #[]
  cf := some (fileOf pool0 8 #[] #[{ accessFlags := 1, nameIndex := 5, descriptorIndex := 6, attributes := #[] }] 33 0 #[] #[])
  fields := #[]
  methods := #[k0m0]
  instanceTypes := #[]
  staticTypes := #[]
  resolved := Array.replicate 124 none
  statics := none }

def pool1 : Array CpInfo := pool [(2, .class_ 4), (1, u "java/lang/Object"), (0, u "<init>"), (0, u "()V"), (0, .fieldref 8 9), (0, .class_ 10), (0, .nameAndType 11 12), (0, u "com/example/willebroek/willebroek/service/mailbox/MailboxFolder"), (0, u "INBOX"), (0, u "Lcom/example/willebroek/willebroek/service/mailbox/MailboxFolder;"), (0, .fieldref 8 14), (0, .nameAndType 15 12), (0, u "SENTBOX"), (0, .fieldref 8 17), (0, .nameAndType 18 12), (0, u "BININBOX"), (0, .fieldref 8 20), (0, .nameAndType 21 12), (0, u "BINSENTBOX"), (0, .methodref 23 24), (0, .class_ 25), (0, .nameAndType 26 27), (0, u "com/example/willebroek/willebroek/service/mailbox/MailboxFolderCanMoveToPinLaw"), (0, u "pick"), (0, u "(I)Lcom/example/willebroek/willebroek/service/mailbox/MailboxFolder;"), (0, .methodref 8 29), (0, .nameAndType 30 31), (0, u "canMoveTo"), (0, u "(Lcom/example/willebroek/willebroek/service/mailbox/MailboxFolder;)Z"), (3, u "law"), (0, u "(II)Z")] 2

def k1m0 : Method := { name := "<init>", desc := "()V", sig := { parameters := [], returnType := none }, accessFlags := 2, code := none }
def k1c1 : Code := { maxStack := 2, maxLocals := 1, code := method_2_code, exceptionTable := #[], attributes := #[] }
def k1m1 : Method := { name := "pick", desc := "(I)Lcom/example/willebroek/willebroek/service/mailbox/MailboxFolder;", sig := { parameters := [.int], returnType := some (.object "com/example/willebroek/willebroek/service/mailbox/MailboxFolder") }, accessFlags := 10, code := some k1c1 }
def k1c2 : Code := { maxStack := 2, maxLocals := 7, code := code, exceptionTable := #[], attributes := #[] }
def k1m2 : Method := { name := "law", desc := "(II)Z", sig := { parameters := [.int, .int], returnType := some .boolean }, accessFlags := 9, code := some k1c2 }
/-- com/example/willebroek/willebroek/service/mailbox/MailboxFolderCanMoveToPinLaw -/
def k1 : Class := { plain "com/example/willebroek/willebroek/service/mailbox/MailboxFolderCanMoveToPinLaw" (some 0) with
  accessFlags := 49
  interfaces := #[]
  cf := some (fileOf pool1 23 #[] #[{ accessFlags := 2, nameIndex := 5, descriptorIndex := 6, attributes := #[] }, { accessFlags := 10, nameIndex := 26, descriptorIndex := 27, attributes := #[] }, { accessFlags := 9, nameIndex := 35, descriptorIndex := 36, attributes := #[] }] 49 2 #[] #[])
  fields := #[]
  methods := #[k1m0, k1m1, k1m2]
  instanceTypes := #[]
  staticTypes := #[]
  resolved := Array.replicate 39 none
  statics := none }

def pool2 : Array CpInfo := pool [(1, .class_ 2), (0, u "java/lang/constant/Constable"), (0, .class_ 4), (0, u "java/lang/Object")] 6

/-- java/lang/constant/Constable -/
def k2 : Class := { plain "java/lang/constant/Constable" (some 0) with
  accessFlags := 1537
  interfaces := #[]
  cf := some (fileOf pool2 1 #[] #[] 1537 3 #[] #[])
  fields := #[]
  methods := #[]
  instanceTypes := #[]
  staticTypes := #[]
  resolved := Array.replicate 11 none
  statics := none }

def pool3 : Array CpInfo := pool [(1, .class_ 2), (0, u "java/lang/Comparable"), (0, .class_ 4), (0, u "java/lang/Object")] 7

/-- java/lang/Comparable -/
def k3 : Class := { plain "java/lang/Comparable" (some 0) with
  accessFlags := 1537
  interfaces := #[]
  cf := some (fileOf pool3 1 #[] #[] 1537 3 #[] #[])
  fields := #[]
  methods := #[]
  instanceTypes := #[]
  staticTypes := #[]
  resolved := Array.replicate 12 none
  statics := none }

def pool4 : Array CpInfo := pool [(1, .class_ 2), (0, u "java/io/Serializable"), (0, .class_ 4), (0, u "java/lang/Object")] 2

/-- java/io/Serializable -/
def k4 : Class := { plain "java/io/Serializable" (some 0) with
  accessFlags := 1537
  interfaces := #[]
  cf := some (fileOf pool4 1 #[] #[] 1537 3 #[] #[])
  fields := #[]
  methods := #[]
  instanceTypes := #[]
  staticTypes := #[]
  resolved := Array.replicate 7 none
  statics := none }

def pool5 : Array CpInfo := pool [(2, .class_ 4), (1, u "java/lang/Enum"), (0, u "name"), (0, u "Ljava/lang/String;"), (2, u "ordinal"), (0, u "I"), (1, .class_ 14), (1, u "java/lang/Object"), (4, u "hash"), (86, .class_ 108), (1, u "java/lang/Enum$EnumDesc"), (2, .class_ 112), (0, u "java/lang/constant/Constable"), (0, .class_ 114), (0, u "java/lang/Comparable"), (0, .class_ 116), (0, u "java/io/Serializable")] 87

/-- java/lang/Enum -/
def k5 : Class := { plain "java/lang/Enum" (some 0) with
  accessFlags := 1057
  interfaces := #[2, 3, 4]
  cf := some (fileOf pool5 2 #[.nestMembers #[106]] #[] 1057 12 #[111, 113, 115] #[{ accessFlags := 18, nameIndex := 5, descriptorIndex := 6, attributes := #[] }, { accessFlags := 18, nameIndex := 9, descriptorIndex := 10, attributes := #[] }, { accessFlags := 2, nameIndex := 19, descriptorIndex := 10, attributes := #[] }])
  fields := #[{ name := "name", type := (.object "java/lang/String"), accessFlags := 18, slot := 0, constantValue := 0 }, { name := "ordinal", type := .int, accessFlags := 18, slot := 1, constantValue := 0 }, { name := "hash", type := .int, accessFlags := 2, slot := 2, constantValue := 0 }]
  methods := #[]
  instanceTypes := #[(.object "java/lang/String"), .int, .int]
  staticTypes := #[]
  resolved := Array.replicate 204 none
  statics := none }

def pool6 : Array CpInfo := pool [(1, .class_ 2), (0, u "com/example/willebroek/willebroek/service/mailbox/MailboxFolder"), (2, u "INBOX"), (0, u "Lcom/example/willebroek/willebroek/service/mailbox/MailboxFolder;"), (2, u "SENTBOX"), (2, u "BININBOX"), (2, u "BINSENTBOX"), (2, u "$VALUES"), (0, u "[Lcom/example/willebroek/willebroek/service/mailbox/MailboxFolder;"), (6, .class_ 28), (1, u "java/lang/Enum"), (6, .fieldref 1 36), (0, .nameAndType 37 38), (0, u "sent"), (0, u "Z"), (28, u "canMoveTo"), (0, u "(Lcom/example/willebroek/willebroek/service/mailbox/MailboxFolder;)Z")] 6

def k6c0 : Code := { maxStack := 2, maxLocals := 2, code := prog_73_method_6_code, exceptionTable := #[], attributes := #[] }
def k6m0 : Method := { name := "canMoveTo", desc := "(Lcom/example/willebroek/willebroek/service/mailbox/MailboxFolder;)Z", sig := { parameters := [(.object "com/example/willebroek/willebroek/service/mailbox/MailboxFolder")], returnType := some .boolean }, accessFlags := 0, code := some k6c0 }
/-- com/example/willebroek/willebroek/service/mailbox/MailboxFolder -/
def k6 : Class := { plain "com/example/willebroek/willebroek/service/mailbox/MailboxFolder" (some 5) with
  accessFlags := 16432
  interfaces := #[]
  cf := some (fileOf pool6 1 #[] #[{ accessFlags := 0, nameIndex := 67, descriptorIndex := 68, attributes := #[] }] 16432 26 #[] #[{ accessFlags := 16409, nameIndex := 5, descriptorIndex := 6, attributes := #[] }, { accessFlags := 16409, nameIndex := 9, descriptorIndex := 6, attributes := #[] }, { accessFlags := 16409, nameIndex := 12, descriptorIndex := 6, attributes := #[] }, { accessFlags := 16409, nameIndex := 15, descriptorIndex := 6, attributes := #[] }, { accessFlags := 18, nameIndex := 37, descriptorIndex := 38, attributes := #[] }, { accessFlags := 4122, nameIndex := 18, descriptorIndex := 19, attributes := #[] }])
  fields := #[{ name := "INBOX", type := (.object "com/example/willebroek/willebroek/service/mailbox/MailboxFolder"), accessFlags := 16409, slot := 0, constantValue := 0 }, { name := "SENTBOX", type := (.object "com/example/willebroek/willebroek/service/mailbox/MailboxFolder"), accessFlags := 16409, slot := 1, constantValue := 0 }, { name := "BININBOX", type := (.object "com/example/willebroek/willebroek/service/mailbox/MailboxFolder"), accessFlags := 16409, slot := 2, constantValue := 0 }, { name := "BINSENTBOX", type := (.object "com/example/willebroek/willebroek/service/mailbox/MailboxFolder"), accessFlags := 16409, slot := 3, constantValue := 0 }, { name := "sent", type := .boolean, accessFlags := 18, slot := 3, constantValue := 0 }, { name := "$VALUES", type := (.array (.object "com/example/willebroek/willebroek/service/mailbox/MailboxFolder")), accessFlags := 4122, slot := 4, constantValue := 0 }]
  methods := #[k6m0]
  instanceTypes := #[(.object "java/lang/String"), .int, .int, .boolean]
  staticTypes := #[(.object "com/example/willebroek/willebroek/service/mailbox/MailboxFolder"), (.object "com/example/willebroek/willebroek/service/mailbox/MailboxFolder"), (.object "com/example/willebroek/willebroek/service/mailbox/MailboxFolder"), (.object "com/example/willebroek/willebroek/service/mailbox/MailboxFolder"), (.array (.object "com/example/willebroek/willebroek/service/mailbox/MailboxFolder"))]
  resolved := Array.replicate 75 none
  statics := some 0 }

def pool7 : Array CpInfo := pool [(1, u "java/lang/Cloneable"), (0, .class_ 1), (0, u "java/lang/Object"), (0, .class_ 3)] 3

/-- java/lang/Cloneable -/
def k7 : Class := { plain "java/lang/Cloneable" (some 0) with
  accessFlags := 1537
  interfaces := #[]
  cf := some (fileOf pool7 2 #[] #[] 1537 4 #[] #[])
  fields := #[]
  methods := #[]
  instanceTypes := #[]
  staticTypes := #[]
  resolved := Array.replicate 8 none
  statics := none }

/-- the primitive byte -/
def k8 : Class := { plain "byte" none with kind := .primitive 'B', accessFlags := 0x411 }
/-- [B -/
def k9 : Class := { plain "[B" (some 0) with kind := .array 8 .byte, interfaces := #[7, 4], accessFlags := 1041 }

/-- the primitive int -/
def k10 : Class := { plain "int" none with kind := .primitive 'I', accessFlags := 0x411 }
/-- [I -/
def k11 : Class := { plain "[I" (some 0) with kind := .array 10 .int, interfaces := #[7, 4], accessFlags := 1041 }

def heap : Heap := #[{ cls := 6, slots := #[.ref 1, .ref 4, .ref 3, .ref 2, .null], vm := .statics 6 },
  { cls := 6, slots := #[.null, .int 0, .int 0, .int 0], vm := .none },
  { cls := 6, slots := #[.null, .int 3, .int 0, .int 1], vm := .none },
  { cls := 6, slots := #[.null, .int 2, .int 0, .int 0], vm := .none },
  { cls := 6, slots := #[.null, .int 1, .int 0, .int 1], vm := .none }]
def classes : Array Class := #[k0, k1, k2, k3, k4, k5, k6, k7, k8, k9, k10, k11]
def interned : List (Array UInt16 × Addr) := []
def slotsUsed : Nat := 21
def theMethod : MethodId := ⟨1, 2⟩
def args0 : Array Value := #[.int 5, .int 1]
def aboutOver (below : List Frame) : State where
  vm := { classes := classes, interned := interned.toArray }
  heap := heap
  slotsUsed := slotsUsed
  threads := #[{ frames := .invoking theMethod args0 :: below }]
def below0 : List Frame := [.native { method := ⟨0, 0⟩, args := #[] }]
def about1 : State := aboutOver below0
def p0 : Program := .bare "" "" ""
def e0 : Env := launch0.env 0 0 0
theorem w_frames : about1.frames = Frame.invoking theMethod args0 :: below0 := rfl
set_option maxRecDepth 65536 in
theorem w_args : argsFit about1.vm theMethod args0 = true := by decide +kernel
set_option maxRecDepth 65536 in
theorem w_heap : heapFits about1 = true := by decide +kernel
set_option maxRecDepth 65536 in
theorem w_runnable : about1.curStatus? = some .runnable := by decide +kernel
set_option maxRecDepth 65536 in
theorem w_alone : about1.alone = true := by decide +kernel
set_option maxRecDepth 65536 in
theorem w_named : about1.methodNamed? x = some theMethod := by decide +kernel
set_option maxRecDepth 65536 in
theorem w_hears : about1.hears theMethod below0 = true := by decide +kernel
set_option maxRecDepth 65536 in
theorem w_ripe : about1.ripe theMethod args0 below0 = true := by decide +kernel
theorem w_running : about1.status = .running := rfl
set_option maxRecDepth 65536 in
theorem w_room : about1.hasRoom e0.platform room_1 = true :=
  launch0.hasRoom_least _ room_1 (by decide +kernel) (by decide +kernel) (by decide +kernel) (by decide +kernel) (by decide +kernel) (by decide +kernel)
theorem allAtoms_all (ts : List Jvm.Cond) (a : Array Jvm.Value) (st : Jvm.State) : (allAtoms ts).before a st = ts.all (fun c => c.before a st) := by
  induction ts with
  | nil => rfl
  | cons c t ih =>
    show (Jvm.Cond.and c (allAtoms t)).before a st = _
    rw [Jvm.Cond.before_and, ih, List.all_cons]
def words1 : List Jvm.Cond := Jvm.Cond.code x code maxLocals ret :: tables_1
/-- a 'code' word, met by the world's own term for the bytes: nothing is compared byte by byte -/
theorem code_word {y : MethodName} {bytes : ByteArray} {mx : Nat} {rt : Option FieldType} {a : Array Value} {s : State} {m : MethodId} {meth : Method} {c : Code} (h1 : s.methodNamed? y = some m) (h2 : s.vm.method? m = some meth) (h3 : meth.code = some c) (h4 : c.code = bytes)
    (h5 : (c.maxLocals == mx && c.exceptionTable.isEmpty && decide (c.maxStack ≤ mostOperands) && decide (meth.sig.returnType = rt) && !meth.locks && decide (parseMethodDescriptor y.desc = some meth.sig)) = true) : (Jvm.Cond.code y bytes mx rt).before a s = true := by
  simp only [Bool.and_eq_true, beq_iff_eq, Bool.not_eq_true', decide_eq_true_eq] at h5
  obtain ⟨⟨⟨⟨⟨g1, g2⟩, g3⟩, g4⟩, g5⟩, g6⟩ := h5
  simp [Cond.before, Cond.holds, Cond.value, h1, h2, h3, h4, g1, g2, g3, g4, g5, g6]
def isCode : Jvm.Cond → Bool
  | .code _ _ _ _ => true
  | _ => false
theorem all_split {L : List Jvm.Cond} {P : Jvm.Cond → Bool} (h1 : L.all (fun c => isCode c || P c) = true) (h2 : ∀ c ∈ L.filter isCode, P c = true) : L.all P = true := by
  refine List.all_eq_true.mpr fun c hc => ?_
  have h := List.all_eq_true.mp h1 c hc
  rcases Bool.eq_false_or_eq_true (isCode c) with hi | hi
  · exact h2 c (List.mem_filter.mpr ⟨hc, hi⟩)
  · simpa [hi] using h
set_option maxRecDepth 65536 in
theorem w_c0 : (Jvm.Cond.code x code maxLocals ret).before args0 about1 = true := code_word (m := ⟨1, 2⟩) (meth := k1m2) (c := k1c2) (by decide +kernel) rfl rfl rfl (by decide +kernel)
set_option maxRecDepth 65536 in
theorem w_c1 : (Jvm.Cond.code ({ cls := "com/example/willebroek/willebroek/service/mailbox/MailboxFolderCanMoveToPinLaw", name := "pick", desc := "(I)Lcom/example/willebroek/willebroek/service/mailbox/MailboxFolder;" } : Jvm.MethodName) method_2_code (1 : Nat) (Option.some (Jvm.ClassFile.FieldType.object "com/example/willebroek/willebroek/service/mailbox/MailboxFolder"))).before args0 about1 = true := code_word (m := ⟨1, 1⟩) (meth := k1m1) (c := k1c1) (by decide +kernel) rfl rfl rfl (by decide +kernel)
set_option maxRecDepth 65536 in
theorem w_c2 : (Jvm.Cond.code ({ cls := "com/example/willebroek/willebroek/service/mailbox/MailboxFolder", name := "canMoveTo", desc := "(Lcom/example/willebroek/willebroek/service/mailbox/MailboxFolder;)Z" } : Jvm.MethodName) prog_73_method_6_code (2 : Nat) (Option.some Jvm.ClassFile.FieldType.boolean)).before args0 about1 = true := code_word (m := ⟨6, 0⟩) (meth := k6m0) (c := k6c0) (by decide +kernel) rfl rfl rfl (by decide +kernel)
def codes1 : List Jvm.Cond := [Jvm.Cond.code x code maxLocals ret, Jvm.Cond.code ({ cls := "com/example/willebroek/willebroek/service/mailbox/MailboxFolderCanMoveToPinLaw", name := "pick", desc := "(I)Lcom/example/willebroek/willebroek/service/mailbox/MailboxFolder;" } : Jvm.MethodName) method_2_code (1 : Nat) (Option.some (Jvm.ClassFile.FieldType.object "com/example/willebroek/willebroek/service/mailbox/MailboxFolder")), Jvm.Cond.code ({ cls := "com/example/willebroek/willebroek/service/mailbox/MailboxFolder", name := "canMoveTo", desc := "(Lcom/example/willebroek/willebroek/service/mailbox/MailboxFolder;)Z" } : Jvm.MethodName) prog_73_method_6_code (2 : Nat) (Option.some Jvm.ClassFile.FieldType.boolean)]
set_option maxRecDepth 65536 in
theorem codes_eq : words1.filter isCode = codes1 := rfl
theorem w_codes : ∀ c ∈ words1.filter isCode, c.before args0 about1 = true := by
  rw [codes_eq]
  intro c hc
  simp only [codes1, List.mem_cons, List.not_mem_nil, or_false] at hc
  rcases hc with rfl | rfl | rfl
  · exact w_c0
  · exact w_c1
  · exact w_c2
set_option maxRecDepth 65536 in
theorem w_t1 : words1.all (fun c => isCode c || c.before args0 about1) = true := by decide +kernel
theorem w_tables : (allAtoms (Jvm.Cond.code x code maxLocals ret :: tables_1)).before args0 about1 = true := by
  rw [allAtoms_all]
  show words1.all (fun c => c.before args0 about1) = true
  refine all_split ?_ w_codes
  rw [w_t1]
set_option maxRecDepth 65536 in
theorem w_case : (Jvm.Cond.and given_1 narrow_1).before args0 about1 = true := by decide +kernel
theorem w_applies : (headSpec (Jvm.Cond.code x code maxLocals ret :: tables_1) room_1).applies x e0.platform about1 = true :=
  (Spec.applies_iff w_frames).mpr ⟨w_running, w_runnable, w_alone, w_named, w_hears, w_ripe, w_room, w_tables⟩
theorem atStart : AtStart classFile x code maxLocals ret World_1 tables_1 room_1 Calls_1 rest_1 Pre_1 launch0 p0 e0 about1 theMethod args0 below0 :=
  ⟨lists_1, trivial, launch0.admits_env _ _ _, launch0.least_env, fairChoices_fair.cas, fairChoices_fair.clock, w_frames, w_args, w_heap, w_applies, trivial, trivial, w_case⟩
end start1
theorem witness_1 : WitnessClaimed_1 := ⟨start1.p0, start1.e0, start1.about1, start1.theMethod, start1.args0, start1.below0, start1.atStart⟩
end Jvm.Pilot.@@N@@
