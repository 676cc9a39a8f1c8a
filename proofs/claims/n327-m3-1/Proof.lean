import JvmDerived
import JvmDerived.Pilot.@@N@@Statement
import JvmDerived.Pilot.@@N@@Code
set_option linter.unusedVariables false
set_option linter.unusedSimpArgs false
@@BLOCK:NumsL.lean.txt@@
namespace Jvm.Pilot.@@N@@
open Jvm Jvm.ClassFile Sem Op Lib Jvm.Free Jvm.Stand Jvm.LawKit Jvm.RoadKit Bundle Jvm.Pilot.@@N@@.Jvm.D
section Own
variable {p : Program} {l : Launch} {e : Env} {R : Room} {s : State} {m : MethodId} {args : Array Value} {below : List Frame} {meth : Method} {c : Code} {T : State} {locs : List Loc} {cells slots : Nat} {Z : State} {a0 : Array Value} {h : Heap}
/-- from here the walk comes to an end that P holds of -/
def own_G (p : Program) (e : Env) (below : List Frame) (P : State → Outcome → Prop) (T : State) (g : JFrame) : Prop := ∃ t o, Steps p.tables e below (T.setTop g) t ∧ P t o
def own_P (below : List Frame) (s : State) (rm : Room) (Q : Option Value → Heap → List Loc → Prop) (t : State) (o : Outcome) : Prop := t.status = .running ∧ Ended t below o ∧ ∃ v L, o = .returned v ∧ Q v t.heap L ∧ FrameEnd s o t L rm.cells rm.slots
/-- a body's contract: over these arguments and this heap it returns, and Q holds of what it returns, the heap and the places written -/
def own_M (l : Launch) (Z : State) (y : MethodName) (code : ByteArray) (maxL : Nat) (ret : Option FieldType) (rm : Room) (as : Array Value) (h : Heap) (Q : Option Value → Heap → List Loc → Prop) : Prop :=
  ∀ ws : List Jvm.Cond, MetFree l y (head1 (Jvm.Cond.code y code maxL ret :: ws) rm) (fun a U => a = as ∧ Z.Warmed39 U.vm ∧ U.heap = h) (fun _ _ _ _ _ => True) (fun _ U o U' => ∃ v L, o = .returned v ∧ Q v U'.heap L ∧ FrameEnd U o U' L rm.cells rm.slots)
theorem own_go {P : State → Outcome → Prop} {T' : State} {g g' : JFrame} (st : ∀ t, Steps p.tables e below (T'.setTop g') t → Steps p.tables e below (T.setTop g) t) (k : own_G p e below P T' g') : own_G p e below P T g := by
  obtain ⟨t, o, h1, h2⟩ := k
  exact ⟨t, o, st t h1, h2⟩
theorem own_body {y : MethodName} {code : ByteArray} {maxL : Nat} {ret : Option FieldType} {rm : Room} {as : Array Value} {Q : Option Value → Heap → List Loc → Prop} (hn : plainName y.cls = true)
    (body : ∀ (p : Program) (e : Env) (s : State) (m : MethodId) (below : List Frame) (meth : Method) (c : Code) (T : State), p.tables.exec = Jvm.exec → c.code = code → c.maxLocals = maxL → meth.locks = false → s.vm.findClass y.cls = some m.cls → meth.sig.returnType = ret → meth.name = y.name → Z.Warmed39 s.vm → Stand p l e rm s m as below meth c T [] 0 0 → T.heap = h → own_G p e below (own_P below s rm Q) T (entryFrame m as maxL)) :
    own_M l Z y code maxL ret rm as h Q := by
  intro ws
  refine MetFree.of_bodySF (plainFor_of_name hn) hisR ?_
  intro p e s m args below meth c s₁ Bd hml0 hP hK
  obtain ⟨rfl, hZ, hh⟩ := hP
  obtain ⟨t, o, h1, h2, h3, h4⟩ := body p e s m below meth c s₁ Bd.exec Bd.bytes hml0 Bd.notSynchronized (findClass_of_methodNamed Bd.named) Bd.returns (name_of_methodNamed Bd.named Bd.method).1 hZ (Stand.of_body Bd) (by rw [← hh, Bd.state]; rfl)
  exact ⟨t, o, h1, h2, h3, h4⟩
theorem own_retI {rm : Room} {Q : Option Value → Heap → List Loc → Prop} (X : Stand p l e R s m args below meth c T locs cells slots) (hx : p.tables.exec = Jvm.exec) (hlk : meth.locks = false) (hret : meth.sig.returnType = some .int) {pc : Nat} {Ls : Array Slot} {z : Int32} {rest : List Value} (hd : decode c.code pc = .ok (.ireturn, 1)) (hc : cells ≤ rm.cells) (hs : slots ≤ rm.slots) (hQ : Q (some (.int z)) T.heap locs) :
    own_G p e below (own_P below s rm Q) T (mkF m pc Ls (.int z :: rest)) := by
  obtain ⟨fs, hr, hrun, hended, hW, hsame⟩ := X.leave (v := some (.int z)) (fun h => by rw [hret] at h; cases h) hlk
  exact ⟨_, _, retOut X hx hret rfl (Or.inl ⟨rfl, Or.inl rfl, _, rfl⟩) hd hr, hrun, hended, _, _, rfl, hQ, ⟨_, rfl⟩, hW, hsame.mono hc hs⟩
theorem own_retN {rm : Room} {Q : Option Value → Heap → List Loc → Prop} (X : Stand p l e R s m args below meth c T locs cells slots) (hx : p.tables.exec = Jvm.exec) (hlk : meth.locks = false) {t : FieldType} (hret : meth.sig.returnType = some t) (ht : t = .boolean ∨ t = .byte ∨ t = .char ∨ t = .short) {pc : Nat} {Ls : Array Slot} {z : Int32} {rest : List Value} (hd : decode c.code pc = .ok (.ireturn, 1)) (hc : cells ≤ rm.cells) (hs : slots ≤ rm.slots) (hQ : Q (some (.int (nar t z))) T.heap locs) :
    own_G p e below (own_P below s rm Q) T (mkF m pc Ls (.int z :: rest)) := by
  obtain ⟨fs, hr, hrun, hended, hW, hsame⟩ := X.leave (v := some (.int (nar t z))) (fun h => by rw [hret] at h; cases h) hlk
  exact ⟨_, _, retN X hx hret ht hd hr, hrun, hended, _, _, rfl, hQ, ⟨_, rfl⟩, hW, hsame.mono hc hs⟩
theorem own_narrow {t : FieldType} {w : Value} (hw : w.isRef = true) : narrow t w = w := by
  rcases ref_cases hw with rfl | ⟨a, rfl⟩ <;> cases t <;> rfl
theorem own_retA {rm : Room} {Q : Option Value → Heap → List Loc → Prop} (X : Stand p l e R s m args below meth c T locs cells slots) (hx : p.tables.exec = Jvm.exec) (hlk : meth.locks = false) {t : FieldType} (hret : meth.sig.returnType = some t) (ht : t.isReference = true) {pc : Nat} {Ls : Array Slot} {w : Value} {rest : List Value} (hw : w.isRef = true) (hd : decode c.code pc = .ok (.areturn, 1)) (hc : cells ≤ rm.cells) (hs : slots ≤ rm.slots) (hQ : Q (some w) T.heap locs) :
    own_G p e below (own_P below s rm Q) T (mkF m pc Ls (w :: rest)) := by
  obtain ⟨fs, hr, hrun, hended, hW, hsame⟩ := X.leave (v := some w) (fun h => by rw [hret] at h; cases h) hlk
  exact ⟨_, _, retOut X hx hret (own_narrow hw) (Or.inr (Or.inr (Or.inr (Or.inr ⟨rfl, ht, hw⟩)))) hd hr, hrun, hended, _, _, rfl, hQ, ⟨_, rfl⟩, hW, hsame.mono hc hs⟩
theorem own_ret0 {rm : Room} {Q : Option Value → Heap → List Loc → Prop} (X : Stand p l e R s m args below meth c T locs cells slots) (hx : p.tables.exec = Jvm.exec) (hlk : meth.locks = false) (hret : meth.sig.returnType = none) {pc : Nat} {Ls : Array Slot} (hd : decode c.code pc = .ok (.return_, 1)) (hc : cells ≤ rm.cells) (hs : slots ≤ rm.slots) (hQ : Q none T.heap locs) :
    own_G p e below (own_P below s rm Q) T (mkF m pc Ls []) := by
  obtain ⟨fs, hr, hrun, hended, hW, hsame⟩ := X.leave (v := none) (fun _ => rfl) hlk
  exact ⟨_, _, X.returnOut hx hret hd hr, hrun, hended, _, _, rfl, hQ, ⟨_, rfl⟩, hW, hsame.mono hc hs⟩
theorem own_callS (X : Stand p l e R s m args below meth c T locs cells slots) (hx : p.tables.exec = Jvm.exec) (hZ : Z.Warmed39 s.vm) {own : String} {index : Nat} {y : MethodName} {bytes : ByteArray} {maxL : Nat} {ret : Option FieldType} (hown : s.vm.findClass own = some m.cls)
    (w1 : (Jvm.Cond.methodLink own index y).before a0 Z = true) (w2 : (Jvm.Cond.static y).before a0 Z = true) (w3 : (Jvm.Cond.initialized y.cls).before a0 Z = true) (w4 : (Jvm.Cond.code y bytes maxL ret).before a0 Z = true) (hy : y.cls ≠ "java/lang/invoke/MethodHandle" ∧ y.cls ≠ "java/lang/invoke/VarHandle")
    {rm : Room} {argsL rest : List Value} {Q : Option Value → Heap → List Loc → Prop} (hM : own_M l Z y bytes maxL ret rm argsL.toArray h Q) (eT : T.heap = h) {g : JFrame} (hg : g.method = m) (hsize : g.locals.size = c.maxLocals) {ps : List FieldType} {r : Option FieldType} (hpd : parseMethodDescriptor y.desc = some ⟨ps, r⟩) (hpl : argsL.length = ps.length)
    (hstack : g.stack = argsL.reverse ++ rest) {W : Nat} (hW : 2 * g.monitorRoom + (rest.map fun v => v.category).sum ≤ W) (hdg : decode c.code g.pc = .ok (.invokestatic index, 3)) (hf : rm.frames + 1 ≤ R.frames) (hl : W + (maxL + 11) + rm.locals ≤ R.locals) (hc : cells + rm.cells ≤ R.cells) (hs : slots + rm.slots ≤ R.slots) :
    ∃ (T' : State) (L : List Loc) (v : Option Value), Stand p l e R s m args below meth c T' (locs ++ L) (cells + rm.cells) (slots + rm.slots) ∧ Q v T'.heap L ∧ ∀ t, Steps p.tables e below (T'.setTop { g with pc := g.pc + 3, stack := v.toList ++ rest }) t → Steps p.tables e below (T.setTop g) t := by
  obtain ⟨v, vm₁, ⟨T', L', k', n'⟩, -, X', ⟨L, hQ, e1, e2, e3⟩, st⟩ := Jvm.LawKit.callS X hx (y := y) hown (mvT hZ w1) (mvT hZ w2) (mvT hZ w3) (mvT hZ w4) hy (backOf (W := W) (hM []) hZ w4 w3 hf hl) hg hsize (argsL := argsL) (rest := rest) (lenOf hpd hpl) hstack hW hdg (fun _ _ => ⟨rfl, eT, hc, hs⟩)
  dsimp only [Pt.U, Pt.locs, Pt.cells, Pt.slots] at X' e1 e2 e3 st hQ
  subst e1 e2 e3
  exact ⟨T', L, v, X', hQ, st⟩
theorem own_callV (X : Stand p l e R s m args below meth c T locs cells slots) (hx : p.tables.exec = Jvm.exec) (hZ : Z.Warmed39 s.vm) {own C : String} {index : Nat} {y z : MethodName} {bytes : ByteArray} {maxL : Nat} {ret : Option FieldType} (hown : s.vm.findClass own = some m.cls)
    (w1 : (Jvm.Cond.methodLink own index y).before a0 Z = true) (w2 : (Jvm.Cond.declares y).before a0 Z = true) (w3 : (Jvm.Cond.selects y.cls y z).before a0 Z = true) (w3' : (Jvm.Cond.selects C y z).before a0 Z = true) (w4 : (Jvm.Cond.instanceMethod z).before a0 Z = true) (w5 : (Jvm.Cond.code z bytes maxL ret).before a0 Z = true) (w6 : (Jvm.Cond.initialized z.cls).before a0 Z = true) (hnf : NotFace s y)
    (hy : y.cls ≠ "java/lang/invoke/MethodHandle" ∧ y.cls ≠ "java/lang/invoke/VarHandle")
    {rm : Room} {a : Addr} {argsL rest : List Value} {Q : Option Value → Heap → List Loc → Prop} (hM : own_M l Z z bytes maxL ret rm (.ref a :: argsL).toArray h Q) (eT : T.heap = h) (E : Exa Z h a C) {g : JFrame} (hg : g.method = m) (hsize : g.locals.size = c.maxLocals) {ps : List FieldType} {r : Option FieldType} (hpd : parseMethodDescriptor y.desc = some ⟨ps, r⟩) (hpl : argsL.length = ps.length)
    (hstack : g.stack = argsL.reverse ++ .ref a :: rest) {W : Nat} (hW : 2 * g.monitorRoom + (rest.map fun v => v.category).sum ≤ W) (hdg : decode c.code g.pc = .ok (.invokevirtual index, 3)) (hf : rm.frames + 1 ≤ R.frames) (hl : W + (maxL + 11) + rm.locals ≤ R.locals) (hc : cells + rm.cells ≤ R.cells) (hs : slots + rm.slots ≤ R.slots) :
    ∃ (T' : State) (L : List Loc) (v : Option Value), Stand p l e R s m args below meth c T' (locs ++ L) (cells + rm.cells) (slots + rm.slots) ∧ Q v T'.heap L ∧ ∀ t, Steps p.tables e below (T'.setTop { g with pc := g.pc + 3, stack := v.toList ++ rest }) t → Steps p.tables e below (T.setTop g) t := by
  obtain ⟨cq, kq, qa, qb, qc⟩ := isOf hZ eT E
  obtain ⟨v, vm₁, ⟨T', L', k', n'⟩, -, X', ⟨L, hQ, e1, e2, e3⟩, st⟩ := X.virtualBack hx (y := y) (z := z) hown (mvT hZ w1) (mvT hZ w2) hnf (mvT hZ w3') (mvT hZ w4) hy (backOf (W := W) (hM []) hZ w5 w6 hf hl) qa qc hg hsize (Steps.refl _) (argsL := argsL) (rest := rest) (lenOf hpd hpl) hstack hW hdg (fun _ _ => ⟨rfl, eT, hc, hs⟩)
  dsimp only [Pt.U, Pt.locs, Pt.cells, Pt.slots] at X' e1 e2 e3 st hQ
  subst e1 e2 e3
  exact ⟨T', L, v, X', hQ, fun t k => st.trans k⟩
theorem own_callU (X : Stand p l e R s m args below meth c T locs cells slots) (hx : p.tables.exec = Jvm.exec) (hZ : Z.Warmed39 s.vm) {own C owner : String} {index : Nat} {y z : MethodName} {bytes : ByteArray} {maxL : Nat} {ret : Option FieldType} (hown : s.vm.findClass own = some m.cls)
    (w1 : (Jvm.Cond.methodLink own index y).before a0 Z = true) (w2 : (Jvm.Cond.sameMethod y.cls owner y.name y.desc).before a0 Z = true) (w2' : (Jvm.Cond.declares ⟨owner, y.name, y.desc⟩).before a0 Z = true) (w3 : (Jvm.Cond.selects C y z).before a0 Z = true) (w4 : (Jvm.Cond.instanceMethod z).before a0 Z = true) (w5 : (Jvm.Cond.code z bytes maxL ret).before a0 Z = true) (w6 : (Jvm.Cond.initialized z.cls).before a0 Z = true)
    (hy : owner ≠ "java/lang/invoke/MethodHandle" ∧ owner ≠ "java/lang/invoke/VarHandle")
    {rm : Room} {a : Addr} {argsL rest : List Value} {Q : Option Value → Heap → List Loc → Prop} (hM : own_M l Z z bytes maxL ret rm (.ref a :: argsL).toArray h Q) (eT : T.heap = h) (E : Exa Z h a C) {g : JFrame} (hg : g.method = m) (hsize : g.locals.size = c.maxLocals) {ps : List FieldType} {r : Option FieldType} (hpd : parseMethodDescriptor y.desc = some ⟨ps, r⟩) (hpl : argsL.length = ps.length)
    (hstack : g.stack = argsL.reverse ++ .ref a :: rest) {W : Nat} (hW : 2 * g.monitorRoom + (rest.map fun v => v.category).sum ≤ W) (hdg : decode c.code g.pc = .ok (.invokevirtual index, 3)) (hf : rm.frames + 1 ≤ R.frames) (hl : W + (maxL + 11) + rm.locals ≤ R.locals) (hc : cells + rm.cells ≤ R.cells) (hs : slots + rm.slots ≤ R.slots) :
    ∃ (T' : State) (L : List Loc) (v : Option Value), Stand p l e R s m args below meth c T' (locs ++ L) (cells + rm.cells) (slots + rm.slots) ∧ Q v T'.heap L ∧ ∀ t, Steps p.tables e below (T'.setTop { g with pc := g.pc + 3, stack := v.toList ++ rest }) t → Steps p.tables e below (T.setTop g) t := by
  obtain ⟨cq, kq, qa, qb, qc⟩ := isOf hZ eT E
  obtain ⟨v, vm₁, ⟨T', L', k', n'⟩, -, X', ⟨L, hQ, e1, e2, e3⟩, st⟩ := X.virtualBackUp hx (x := y) (y := z) hown (mvT hZ w1) (mvT hZ w2) (mvT hZ w2') hy (mvT hZ w3) (mvT hZ w4) (backOf (W := W) (hM []) hZ w5 w6 hf hl) qa qc hg hsize (Steps.refl _) (argsL := argsL) (rest := rest) (lenOf hpd hpl) hstack hW hdg (fun _ _ => ⟨rfl, eT, hc, hs⟩)
  dsimp only [Pt.U, Pt.locs, Pt.cells, Pt.slots] at X' e1 e2 e3 st hQ
  subst e1 e2 e3
  exact ⟨T', L, v, X', hQ, fun t k => st.trans k⟩
theorem own_neL {i K : Int32} {k : Int} (h : ¬ i = K) (hk : K.toInt = k) : k ≠ i.toInt := fun q => h (Int32.toInt_inj.mp (by rw [hk, q]))
abbrev own_cell (cA : ClassId) (vs : Array Value) : Cell := { cls := cA, slots := vs, vm := .none }
theorem own_in {cl : Cell} {j : Int32} {n : Nat} (hs : cl.slots.size = n) (hj : ¬ (j < 0 ∨ n ≤ j.toNatClampNeg)) : ¬ (j < 0 ∨ cl.slots.size ≤ j.toNatClampNeg) := by rw [hs]; exact hj
theorem own_ext_refl (h : Heap) : Ext h h := ⟨Nat.le_refl _, fun _ _ q => q⟩
theorem own_ext_trans {h0 h h' : Heap} (E : Ext h0 h) (E' : Ext h h') : Ext h0 h' := ⟨Nat.le_trans E.1 E'.1, fun a c q => E'.2 a c (E.2 a c q)⟩
theorem own_ext_eq {h0 h h' : Heap} (E : Ext h0 h) (q : h' = h) : Ext h0 h' := q ▸ E
theorem own_acVF {v w : Value} (q : v = w) : Jvm.Free.XT.acmp .ne v w = false := by subst q; simp [Jvm.Free.XT.acmp]
theorem own_ext_wr {h0 h h' : Heap} {a : Addr} {sl : Nat} {v : Value} (E : Ext h0 h) (W : Wr h h' a sl v) (q : h0.size ≤ a) : Ext h0 h' := by
  refine ⟨by rw [W.size]; exact E.1, fun x cx hx => ?_⟩
  obtain ⟨c', e1, -, -, -, e5, -⟩ := wr_at W (E.2 x cx hx)
  rw [← e5 (Nat.ne_of_lt (Nat.lt_of_lt_of_le (Array.getElem?_eq_some_iff.mp hx).1 q))]
  exact e1
theorem own_fld {t : Term} {a : Addr} {C n d : String} {k : Int32} (ev : t.eval args Z none [] Z = some (.ref a)) (w : (Jvm.Cond.eq (.field t C n d) (.int k)).value args Z none Z [] = some true) : Fld Z Z.heap a C n d (.int k) := by
  obtain ⟨x, y, e1, e2, k1, k2⟩ := cmp_v (Or.inl w)
  obtain rfl : y = .int k := (Option.some.inj e2).symm
  obtain ⟨z, rfl⟩ := k2
  have hz := gotT (Jvm.Cond.eq_ints e1 e2) w
  rw [fld_at ev] at e1
  rw [hz] at e1
  exact Fld.start e1
theorem own_len {t : Term} {a : Addr} {cl : Cell} {ty : FieldType} {k : Int32} (ev : t.eval args Z none [] Z = some (.ref a)) (A : Arr Z Z.heap a cl ty) (w : (Jvm.Cond.eq (.length t) (.int k)).value args Z none Z [] = some true) : cl.slots.size = k.toInt.toNat := by
  obtain ⟨x, y, e1, e2, k1, k2⟩ := cmp_v (Or.inl w)
  obtain rfl : y = .int k := (Option.some.inj e2).symm
  obtain ⟨z, rfl⟩ := k2
  have hz := gotT (Jvm.Cond.eq_ints e1 e2) w
  have hA : Z.arrayAt? a = some cl := Arr.fin (Vm.Alike.refl _) A
  by_cases hl : cl.slots.size < 2 ^ 31
  · rw [len_f ev hA hl] at e1
    have h1 : cl.slots.size.toInt32 = z := Value.int.inj (Option.some.inj e1)
    rw [← hz, ← h1, len_toInt hl]
    rfl
  · simp [Term.eval, ev, hA, hl] at e1
theorem own_elemI {t : Term} {a : Addr} {cl : Cell} {ty : FieldType} {j k : Int32} (ev : t.eval args Z none [] Z = some (.ref a)) (A : Arr Z Z.heap a cl ty) (w : (Jvm.Cond.eq (.elem t (.int j)) (.int k)).value args Z none Z [] = some true) : cl.slots[j.toNatClampNeg]? = some (.int k) := by
  obtain ⟨x, y, e1, e2, k1, k2⟩ := cmp_v (Or.inl w)
  obtain rfl : y = .int k := (Option.some.inj e2).symm
  obtain ⟨z, rfl⟩ := k2
  have hz := gotT (Jvm.Cond.eq_ints e1 e2) w
  rw [← hz]
  exact (elem_in e1 ev (Term.int_eval j) A.1).2
theorem own_elemR {t u : Term} {a b : Addr} {cl : Cell} {ty : FieldType} {j : Int32} (ev : t.eval args Z none [] Z = some (.ref a)) (A : Arr Z Z.heap a cl ty) (ev' : u.eval args Z none [] Z = some (.ref b)) (w : (Jvm.Cond.eq (.elem t (.int j)) u).value args Z none Z [] = some true) : cl.slots[j.toNatClampNeg]? = some (.ref b) := by
  obtain ⟨x, y, e1, e2, k1, k2⟩ := cmp_v (Or.inl w)
  obtain rfl : y = .ref b := (Option.some.inj (ev'.symm.trans e2)).symm
  have hz := gotT (eq_R e1 e2 k2.2 rfl) w
  rw [← hz]
  exact (elem_in e1 ev (Term.int_eval j) A.1).2
theorem own_neV {a b : Int32} (h : a ≠ b) : (Value.int a) ≠ Value.int b := fun q => h (Value.int.inj q)
theorem own_acT {a b : Addr} (h : a = b) : Jvm.Free.XT.acmp .eq (.ref a) (.ref b) = true := by subst h; simp [Jvm.Free.XT.acmp]
theorem own_acF {a b : Addr} (h : a ≠ b) : Jvm.Free.XT.acmp .eq (.ref a) (.ref b) = false := by simp [Jvm.Free.XT.acmp, h]
theorem own_acnT {a b : Addr} (h : a ≠ b) : Jvm.Free.XT.acmp .ne (.ref a) (.ref b) = true := by simp [Jvm.Free.XT.acmp, h]
theorem own_acnF {a b : Addr} (h : a = b) : Jvm.Free.XT.acmp .ne (.ref a) (.ref b) = false := by subst h; simp [Jvm.Free.XT.acmp]
theorem own_mask (x : Int32) : 0 ≤ (x &&& 2147483647).toInt := by
  have := Jvm.Kit.i32_mask x 2147483647 (k := 31) (by decide) (by decide)
  omega
theorem own_rem (y n : Int32) (h0 : 0 ≤ y.toInt) (hn : 0 < n.toInt) : 0 ≤ (y % n).toInt ∧ (y % n).toInt < n.toInt := by
  rw [Int32.toInt_mod]
  exact ⟨Int.tmod_nonneg _ h0, by
    have := Int.tmod_lt_of_pos y.toInt hn
    exact this⟩
end Own
end Jvm.Pilot.@@N@@
namespace Jvm.Pilot.@@N@@
open Jvm Jvm.ClassFile Sem Op Lib Jvm.Free Jvm.Stand Jvm.LawKit Jvm.RoadKit Bundle Jvm.Pilot.@@N@@.Jvm.D
def own_B (Z : State) (h : Heap) (a_CERTIFICATE a_CERTIFIED_ASSERTION a_CERTIFICATE_OR_ASSERTION : Addr) : Prop := Sta Z h "com/example/willebroek/willebroek/security/TokenKinds" "CERTIFICATE" "Lcom/example/willebroek/willebroek/security/TokenKinds;" (.ref a_CERTIFICATE) ∧ Exa Z h a_CERTIFICATE "com/example/willebroek/willebroek/security/TokenKinds" ∧ Fld Z h a_CERTIFICATE "com/example/willebroek/willebroek/security/TokenKinds" "assertion" "Z" (.int (0 : Int32)) ∧ Sta Z h "com/example/willebroek/willebroek/security/TokenKinds" "CERTIFIED_ASSERTION" "Lcom/example/willebroek/willebroek/security/TokenKinds;" (.ref a_CERTIFIED_ASSERTION) ∧ Exa Z h a_CERTIFIED_ASSERTION "com/example/willebroek/willebroek/security/TokenKinds" ∧ Fld Z h a_CERTIFIED_ASSERTION "com/example/willebroek/willebroek/security/TokenKinds" "assertion" "Z" (.int (1 : Int32)) ∧ Fld Z h a_CERTIFIED_ASSERTION "com/example/willebroek/willebroek/security/TokenKinds" "certificate" "Z" (.int (0 : Int32)) ∧ Sta Z h "com/example/willebroek/willebroek/security/TokenKinds" "CERTIFICATE_OR_ASSERTION" "Lcom/example/willebroek/willebroek/security/TokenKinds;" (.ref a_CERTIFICATE_OR_ASSERTION) ∧ Exa Z h a_CERTIFICATE_OR_ASSERTION "com/example/willebroek/willebroek/security/TokenKinds" ∧ Fld Z h a_CERTIFICATE_OR_ASSERTION "com/example/willebroek/willebroek/security/TokenKinds" "certificate" "Z" (.int (1 : Int32)) ∧ Fld Z h a_CERTIFICATE_OR_ASSERTION "com/example/willebroek/willebroek/security/TokenKinds" "assertion" "Z" (.int (1 : Int32)) ∧ Fld Z h a_CERTIFICATE "com/example/willebroek/willebroek/security/TokenKinds" "certificate" "Z" (.int (1 : Int32))
theorem own_B_ext {Z : State} {h h' : Heap} {a_CERTIFICATE a_CERTIFIED_ASSERTION a_CERTIFICATE_OR_ASSERTION : Addr} (E : Ext h h') (B : own_B Z h a_CERTIFICATE a_CERTIFIED_ASSERTION a_CERTIFICATE_OR_ASSERTION) : own_B Z h' a_CERTIFICATE a_CERTIFIED_ASSERTION a_CERTIFICATE_OR_ASSERTION := by
  obtain ⟨S_CERTIFICATE, E_CERTIFICATE, F_CERTIFICATE_assertion, S_CERTIFIED_ASSERTION, E_CERTIFIED_ASSERTION, F_CERTIFIED_ASSERTION_assertion, F_CERTIFIED_ASSERTION_certificate, S_CERTIFICATE_OR_ASSERTION, E_CERTIFICATE_OR_ASSERTION, F_CERTIFICATE_OR_ASSERTION_certificate, F_CERTIFICATE_OR_ASSERTION_assertion, F_CERTIFICATE_certificate⟩ := B
  exact ⟨S_CERTIFICATE.ext E, E_CERTIFICATE.ext E, F_CERTIFICATE_assertion.ext E, S_CERTIFIED_ASSERTION.ext E, E_CERTIFIED_ASSERTION.ext E, F_CERTIFIED_ASSERTION_assertion.ext E, F_CERTIFIED_ASSERTION_certificate.ext E, S_CERTIFICATE_OR_ASSERTION.ext E, E_CERTIFICATE_OR_ASSERTION.ext E, F_CERTIFICATE_OR_ASSERTION_certificate.ext E, F_CERTIFICATE_OR_ASSERTION_assertion.ext E, F_CERTIFICATE_certificate.ext E⟩
theorem own_l3 (z : Int32) (h0 : 0 ≤ z.toInt) (h1 : z.toInt ≤ 2) : z = (0 : Int32) ∨ z = (1 : Int32) ∨ z = (2 : Int32) := by
  simp only [← Int32.toInt_inj]
  change z.toInt = 0 ∨ z.toInt = 1 ∨ z.toInt = 2
  omega
def own_take  (a1 : Addr) (b1 : Int32) (wa : Int32) (wc : Int32) : Int32 := (if b1 = (0 : Int32) then (nar .boolean wc) else (nar .boolean wa))
theorem d1_0 : decode prog_32_method_4_code 0 = .ok (.iload_n 1, 1) := by decide +kernel
theorem d1_1 : decode prog_32_method_4_code 1 = .ok (.ifCond .eq 10, 3) := by decide +kernel
theorem d1_4 : decode prog_32_method_4_code 4 = .ok (.aload_n 0, 1) := by decide +kernel
theorem d1_5 : decode prog_32_method_4_code 5 = .ok (.getfield 36, 3) := by decide +kernel
theorem d1_8 : decode prog_32_method_4_code 8 = .ok (.goto 7, 3) := by decide +kernel
theorem d1_11 : decode prog_32_method_4_code 11 = .ok (.aload_n 0, 1) := by decide +kernel
theorem d1_12 : decode prog_32_method_4_code 12 = .ok (.getfield 32, 3) := by decide +kernel
theorem d1_15 : decode prog_32_method_4_code 15 = .ok (.ireturn, 1) := by decide +kernel
theorem pn_1 : plainName "com/example/willebroek/willebroek/security/TokenKinds" = true := by first | (simp [plainName, overriddenIn]; done) | decide +kernel
set_option maxRecDepth 65536 in
set_option maxHeartbeats 40000000 in
theorem c_take (l : Launch) (Z : State) (a0 : Array Value) (hw : ∀ d ∈ tables_1, d.before a0 Z = true)  (a1 : Addr) (b1 : Int32) (wa : Int32) (wc : Int32) (h0 : Heap)  (F_a1_assertion : Fld Z h0 a1 "com/example/willebroek/willebroek/security/TokenKinds" "assertion" "Z" (.int wa)) (F_a1_certificate : Fld Z h0 a1 "com/example/willebroek/willebroek/security/TokenKinds" "certificate" "Z" (.int wc)) :
    own_M l Z (⟨"com/example/willebroek/willebroek/security/TokenKinds", "take", "(Z)Z"⟩ : MethodName) prog_32_method_4_code 2 (some .boolean) ⟨0, 0, 0, 0⟩ #[.ref a1, .int b1] h0 (fun v h L => v = some (.int (own_take a1 b1 wa wc)) ∧ L = [] ∧ h = h0) := by
  refine own_body pn_1 ?_
  intro p e s m below meth c T0 hx hby hml hlk hown hret hnm hZ X0 e0
  replace hown : s.vm.findClass "com/example/willebroek/willebroek/security/TokenKinds" = some m.cls := hown
  replace hml : c.maxLocals = 2 := hml
  have ef : entryFrame m #[.ref a1, .int b1] 2 = (mkF m 0 #[.val (.ref a1), .val (.int b1)] []) := by first | (simp [entryFrame, mkF, argsToLocals, Value.category]; done) | rfl
  rw [ef]
  refine own_go (fun t k => XS.iloadN X0.here hx rfl (hb hby d1_0) rfl k) ?_
  show own_G p e below _ T0 (mkF m 1 #[.val (.ref a1), .val (.int b1)] [(.int b1)])
  by_cases hc1 : b1 = (0 : Int32)
  ·
    refine own_go (fun t k => XS.ifYes X0.here hx rfl (pc0 := 1) (pc' := 11) rfl (hb hby d1_1) rfl (Jvm.Free.XT.i0_eq_t hc1) (by decide) (by decide) k) ?_
    show own_G p e below _ T0 (mkF m 11 #[.val (.ref a1), .val (.int b1)] [])
    refine own_go (fun t k => XS.aloadN X0.here hx rfl (hb hby d1_11) rfl rfl k) ?_
    show own_G p e below _ T0 (mkF m 12 #[.val (.ref a1), .val (.int b1)] [(.ref a1)])
    obtain ⟨T2, X2, e2, st2⟩ := getF X0 hx hZ hown (host := "") (Or.inl (hw _ (List.mem_of_getElem? (i := 13) rfl))) Via.refl e0 F_a1_certificate (g := (mkF m 12 #[.val (.ref a1), .val (.int b1)] [(.ref a1)])) rfl rfl (hb hby d1_12)
    refine own_go st2 ?_
    show own_G p e below _ T2 (mkF m 15 #[.val (.ref a1), .val (.int b1)] [(.int wc)])
    exact own_retN X2 hx hlk hret (by simp) (hb hby d1_15) (by decide) (by decide) ⟨congrArg some (congrArg Value.int (Eq.symm (show (own_take a1 b1 wa wc) = (nar .boolean wc) from (by unfold own_take; rw [if_pos hc1])))), rfl, e2⟩
  ·
    refine own_go (fun t k => XS.ifNo X0.here hx rfl (hb hby d1_1) rfl (Jvm.Free.XT.i0_eq_f hc1) k) ?_
    show own_G p e below _ T0 (mkF m 4 #[.val (.ref a1), .val (.int b1)] [])
    refine own_go (fun t k => XS.aloadN X0.here hx rfl (hb hby d1_4) rfl rfl k) ?_
    show own_G p e below _ T0 (mkF m 5 #[.val (.ref a1), .val (.int b1)] [(.ref a1)])
    obtain ⟨T3, X3, e3, st3⟩ := getF X0 hx hZ hown (host := "") (Or.inl (hw _ (List.mem_of_getElem? (i := 9) rfl))) Via.refl e0 F_a1_assertion (g := (mkF m 5 #[.val (.ref a1), .val (.int b1)] [(.ref a1)])) rfl rfl (hb hby d1_5)
    refine own_go st3 ?_
    show own_G p e below _ T3 (mkF m 8 #[.val (.ref a1), .val (.int b1)] [(.int wa)])
    refine own_go (fun t k => XS.goto X3.here hx rfl (pc0 := 8) (pc' := 15) rfl (hb hby d1_8) (by decide) (by decide) k) ?_
    show own_G p e below _ T3 (mkF m 15 #[.val (.ref a1), .val (.int b1)] [(.int wa)])
    exact own_retN X3 hx hlk hret (by simp) (hb hby d1_15) (by decide) (by decide) ⟨congrArg some (congrArg Value.int (Eq.symm (show (own_take a1 b1 wa wc) = (nar .boolean wa) from (by unfold own_take; rw [if_neg hc1])))), rfl, e3⟩
theorem pn_0 : plainName "com/example/willebroek/willebroek/security/TokenKindsTakePinLaw" = true := by first | (simp [plainName, overriddenIn]; done) | decide +kernel
set_option maxRecDepth 65536 in
set_option maxHeartbeats 40000000 in
theorem rm0 (l : Launch) (Z : State) (a0 : Array Value) (hw : ∀ d ∈ tables_1, d.before a0 Z = true) (i0 i1 : Int32) (a_CERTIFICATE a_CERTIFIED_ASSERTION a_CERTIFICATE_OR_ASSERTION : Addr) (h0 : Heap) (n0 : Nat) (Z0 : n0 ≤ h0.size) (B : own_B Z h0 a_CERTIFICATE a_CERTIFIED_ASSERTION a_CERTIFICATE_OR_ASSERTION) :
    own_M l Z x code maxLocals ret room_1 #[.int i0, .int i1] h0 (fun v h L => v = some (.int 1) ∧ Fr n0 L) := by
  refine own_body pn_0 ?_
  intro p e s m below meth c T0 hx hby hml hlk hown hret hnm hZ X0 e0
  replace hown : s.vm.findClass "com/example/willebroek/willebroek/security/TokenKindsTakePinLaw" = some m.cls := hown
  replace hml : c.maxLocals = 6 := hml
  replace hret : meth.sig.returnType = some .boolean := hret
  obtain ⟨S_CERTIFICATE, E_CERTIFICATE, F_CERTIFICATE_assertion, S_CERTIFIED_ASSERTION, E_CERTIFIED_ASSERTION, F_CERTIFIED_ASSERTION_assertion, F_CERTIFIED_ASSERTION_certificate, S_CERTIFICATE_OR_ASSERTION, E_CERTIFICATE_OR_ASSERTION, F_CERTIFICATE_OR_ASSERTION_certificate, F_CERTIFICATE_OR_ASSERTION_assertion, F_CERTIFICATE_certificate⟩ := id B
  have hk := own_l3 ((i0 &&& (2147483647 : Int32)) % (3 : Int32)) (own_rem _ 3 (own_mask i0) (by decide)).1 (Int.lt_add_one_iff.mp (own_rem _ 3 (own_mask i0) (by decide)).2)
  have hf := and_one i1
  have N0 := Fr.nil n0
  have ef : entryFrame m #[.int i0, .int i1] maxLocals = (mkF m 0 #[.val (.int i0), .val (.int i1), .unset, .unset, .unset, .unset] []) := by first | (simp [entryFrame, mkF, argsToLocals, Value.category, maxLocals]; done) | rfl
  rw [ef]
  refine own_go (fun t k => XS.iloadN X0.here hx rfl (hb hby at_0) rfl k) ?_
  show own_G p e below _ T0 (mkF m 1 #[.val (.int i0), .val (.int i1), .unset, .unset, .unset, .unset] [(.int i0)])
  refine own_go (X0.ldcInt hx hown (mvT hZ (hw _ (List.mem_of_getElem? (i := 0) rfl))) (g := (mkF m 1 #[.val (.int i0), .val (.int i1), .unset, .unset, .unset, .unset] [(.int i0)])) rfl (hb hby at_1)) ?_
  show own_G p e below _ T0 (mkF m 3 #[.val (.int i0), .val (.int i1), .unset, .unset, .unset, .unset] [(.int (2147483647 : Int32)), (.int i0)])
  refine own_go (fun t k => XS.iand X0.here hx rfl (hb hby at_3) rfl k) ?_
  show own_G p e below _ T0 (mkF m 4 #[.val (.int i0), .val (.int i1), .unset, .unset, .unset, .unset] [(.int (i0 &&& (2147483647 : Int32)))])
  refine own_go (fun t k => XS.iconst X0.here hx rfl (hb hby at_4) k) ?_
  show own_G p e below _ T0 (mkF m 5 #[.val (.int i0), .val (.int i1), .unset, .unset, .unset, .unset] [(.int (3 : Int32)), (.int (i0 &&& (2147483647 : Int32)))])
  refine own_go (fun t k => iremM X0 hx rfl (hb hby at_5) rfl (by decide) k) ?_
  show own_G p e below _ T0 (mkF m 6 #[.val (.int i0), .val (.int i1), .unset, .unset, .unset, .unset] [(.int ((i0 &&& (2147483647 : Int32)) % (3 : Int32)))])
  rcases hk with hk1 | hk1 | hk1
  · rw [hk1]
    show own_G p e below _ T0 (mkF m 6 #[.val (.int i0), .val (.int i1), .unset, .unset, .unset, .unset] [(.int (0 : Int32))])
    refine own_go (fun t k => XS.istoreN X0.here hx rfl (hb hby at_6) rfl (l' := #[.val (.int i0), .val (.int i1), .val (.int (0 : Int32)), .unset, .unset, .unset]) rfl k) ?_
    show own_G p e below _ T0 (mkF m 7 #[.val (.int i0), .val (.int i1), .val (.int (0 : Int32)), .unset, .unset, .unset] [])
    refine own_go (fun t k => XS.iloadN X0.here hx rfl (hb hby at_7) rfl k) ?_
    show own_G p e below _ T0 (mkF m 8 #[.val (.int i0), .val (.int i1), .val (.int (0 : Int32)), .unset, .unset, .unset] [(.int i1)])
    refine own_go (fun t k => XS.iconst X0.here hx rfl (hb hby at_8) k) ?_
    show own_G p e below _ T0 (mkF m 9 #[.val (.int i0), .val (.int i1), .val (.int (0 : Int32)), .unset, .unset, .unset] [(.int (1 : Int32)), (.int i1)])
    refine own_go (fun t k => XS.iand X0.here hx rfl (hb hby at_9) rfl k) ?_
    show own_G p e below _ T0 (mkF m 10 #[.val (.int i0), .val (.int i1), .val (.int (0 : Int32)), .unset, .unset, .unset] [(.int (i1 &&& (1 : Int32)))])
    rcases hf with hk2 | hk2
    · rw [hk2]
      show own_G p e below _ T0 (mkF m 10 #[.val (.int i0), .val (.int i1), .val (.int (0 : Int32)), .unset, .unset, .unset] [(.int (0 : Int32))])
      refine own_go (fun t k => XS.ifYes X0.here hx rfl (pc0 := 10) (pc' := 17) rfl (hb hby at_10) rfl (by decide) (by decide) (by decide) k) ?_
      show own_G p e below _ T0 (mkF m 17 #[.val (.int i0), .val (.int i1), .val (.int (0 : Int32)), .unset, .unset, .unset] [])
      refine own_go (fun t k => XS.iconst X0.here hx rfl (hb hby at_17) k) ?_
      show own_G p e below _ T0 (mkF m 18 #[.val (.int i0), .val (.int i1), .val (.int (0 : Int32)), .unset, .unset, .unset] [(.int (0 : Int32))])
      refine own_go (fun t k => XS.istoreN X0.here hx rfl (hb hby at_18) rfl (l' := #[.val (.int i0), .val (.int i1), .val (.int (0 : Int32)), .val (.int (0 : Int32)), .unset, .unset]) rfl k) ?_
      show own_G p e below _ T0 (mkF m 19 #[.val (.int i0), .val (.int i1), .val (.int (0 : Int32)), .val (.int (0 : Int32)), .unset, .unset] [])
      refine own_go (fun t k => XS.iloadN X0.here hx rfl (hb hby at_19) rfl k) ?_
      show own_G p e below _ T0 (mkF m 20 #[.val (.int i0), .val (.int i1), .val (.int (0 : Int32)), .val (.int (0 : Int32)), .unset, .unset] [(.int (0 : Int32))])
      refine own_go (fun t k => XS.ifNo X0.here hx rfl (hb hby at_20) rfl (by decide) k) ?_
      show own_G p e below _ T0 (mkF m 23 #[.val (.int i0), .val (.int i1), .val (.int (0 : Int32)), .val (.int (0 : Int32)), .unset, .unset] [])
      obtain ⟨T3, X3, e3, st3⟩ := getS X0 hx hZ hown (host := "") (hw _ (List.mem_of_getElem? (i := 1) rfl)) Via.refl e0 S_CERTIFICATE (g := (mkF m 23 #[.val (.int i0), .val (.int i1), .val (.int (0 : Int32)), .val (.int (0 : Int32)), .unset, .unset] [])) rfl (hb hby at_23)
      refine own_go st3 ?_
      show own_G p e below _ T3 (mkF m 26 #[.val (.int i0), .val (.int i1), .val (.int (0 : Int32)), .val (.int (0 : Int32)), .unset, .unset] [(.ref a_CERTIFICATE)])
      refine own_go (fun t k => XS.astore X3.here hx rfl (hb hby at_26) rfl rfl (l' := #[.val (.int i0), .val (.int i1), .val (.int (0 : Int32)), .val (.int (0 : Int32)), .val (.ref a_CERTIFICATE), .unset]) rfl k) ?_
      show own_G p e below _ T3 (mkF m 28 #[.val (.int i0), .val (.int i1), .val (.int (0 : Int32)), .val (.int (0 : Int32)), .val (.ref a_CERTIFICATE), .unset] [])
      refine own_go (fun t k => XS.goto X3.here hx rfl (pc0 := 28) (pc' := 49) rfl (hb hby at_28) (by decide) (by decide) k) ?_
      show own_G p e below _ T3 (mkF m 49 #[.val (.int i0), .val (.int i1), .val (.int (0 : Int32)), .val (.int (0 : Int32)), .val (.ref a_CERTIFICATE), .unset] [])
      refine own_go (fun t k => XS.iloadN X3.here hx rfl (hb hby at_49) rfl k) ?_
      show own_G p e below _ T3 (mkF m 50 #[.val (.int i0), .val (.int i1), .val (.int (0 : Int32)), .val (.int (0 : Int32)), .val (.ref a_CERTIFICATE), .unset] [(.int (0 : Int32))])
      refine own_go (fun t k => XS.ifYes X3.here hx rfl (pc0 := 50) (pc' := 67) rfl (hb hby at_50) rfl (by decide) (by decide) (by decide) k) ?_
      show own_G p e below _ T3 (mkF m 67 #[.val (.int i0), .val (.int i1), .val (.int (0 : Int32)), .val (.int (0 : Int32)), .val (.ref a_CERTIFICATE), .unset] [])
      refine own_go (fun t k => XS.iloadN X3.here hx rfl (hb hby at_67) rfl k) ?_
      show own_G p e below _ T3 (mkF m 68 #[.val (.int i0), .val (.int i1), .val (.int (0 : Int32)), .val (.int (0 : Int32)), .val (.ref a_CERTIFICATE), .unset] [(.int (0 : Int32))])
      refine own_go (fun t k => XS.iconst X3.here hx rfl (hb hby at_68) k) ?_
      show own_G p e below _ T3 (mkF m 69 #[.val (.int i0), .val (.int i1), .val (.int (0 : Int32)), .val (.int (0 : Int32)), .val (.ref a_CERTIFICATE), .unset] [(.int (2 : Int32)), (.int (0 : Int32))])
      refine own_go (fun t k => XS.icmpNo X3.here hx rfl (hb hby at_69) rfl (by decide) k) ?_
      show own_G p e below _ T3 (mkF m 72 #[.val (.int i0), .val (.int i1), .val (.int (0 : Int32)), .val (.int (0 : Int32)), .val (.ref a_CERTIFICATE), .unset] [])
      refine own_go (fun t k => XS.iconst X3.here hx rfl (hb hby at_72) k) ?_
      show own_G p e below _ T3 (mkF m 73 #[.val (.int i0), .val (.int i1), .val (.int (0 : Int32)), .val (.int (0 : Int32)), .val (.ref a_CERTIFICATE), .unset] [(.int (1 : Int32))])
      refine own_go (fun t k => XS.goto X3.here hx rfl (pc0 := 73) (pc' := 77) rfl (hb hby at_73) (by decide) (by decide) k) ?_
      show own_G p e below _ T3 (mkF m 77 #[.val (.int i0), .val (.int i1), .val (.int (0 : Int32)), .val (.int (0 : Int32)), .val (.ref a_CERTIFICATE), .unset] [(.int (1 : Int32))])
      refine own_go (fun t k => XS.istore X3.here hx rfl (hb hby at_77) rfl (l' := #[.val (.int i0), .val (.int i1), .val (.int (0 : Int32)), .val (.int (0 : Int32)), .val (.ref a_CERTIFICATE), .val (.int (1 : Int32))]) rfl k) ?_
      show own_G p e below _ T3 (mkF m 79 #[.val (.int i0), .val (.int i1), .val (.int (0 : Int32)), .val (.int (0 : Int32)), .val (.ref a_CERTIFICATE), .val (.int (1 : Int32))] [])
      refine own_go (fun t k => XS.aload X3.here hx rfl (hb hby at_79) rfl rfl k) ?_
      show own_G p e below _ T3 (mkF m 81 #[.val (.int i0), .val (.int i1), .val (.int (0 : Int32)), .val (.int (0 : Int32)), .val (.ref a_CERTIFICATE), .val (.int (1 : Int32))] [(.ref a_CERTIFICATE)])
      refine own_go (fun t k => XS.iloadN X3.here hx rfl (hb hby at_81) rfl k) ?_
      show own_G p e below _ T3 (mkF m 82 #[.val (.int i0), .val (.int i1), .val (.int (0 : Int32)), .val (.int (0 : Int32)), .val (.ref a_CERTIFICATE), .val (.int (1 : Int32))] [(.int (0 : Int32)), (.ref a_CERTIFICATE)])
      obtain ⟨T4, L4, v4, X4, ⟨rfl, rfl, q4⟩, st4⟩ := own_callV X3 hx hZ (y := (⟨"com/example/willebroek/willebroek/security/TokenKinds", "take", "(Z)Z"⟩ : MethodName)) (z := (⟨"com/example/willebroek/willebroek/security/TokenKinds", "take", "(Z)Z"⟩ : MethodName)) hown (hw _ (List.mem_of_getElem? (i := 4) rfl)) (hw _ (List.mem_of_getElem? (i := 5) rfl)) (hw _ (List.mem_of_getElem? (i := 7) rfl)) (hw _ (List.mem_of_getElem? (i := 7) rfl)) (hw _ (List.mem_of_getElem? (i := 6) rfl)) (hw _ (List.mem_of_getElem? (i := 8) rfl)) (hw _ (List.mem_of_getElem? (i := 2) rfl)) (notFace_of_selects (args := #[]) (mvT hZ (hw _ (List.mem_of_getElem? (i := 7) rfl)))) (by decide) (c_take l Z a0 hw a_CERTIFICATE (0 : Int32) (0 : Int32) (1 : Int32) h0  F_CERTIFICATE_assertion F_CERTIFICATE_certificate) e3 E_CERTIFICATE (argsL := [(.int (0 : Int32))]) (rest := []) (g := (mkF m 82 #[.val (.int i0), .val (.int i1), .val (.int (0 : Int32)), .val (.int (0 : Int32)), .val (.ref a_CERTIFICATE), .val (.int (1 : Int32))] [(.int (0 : Int32)), (.ref a_CERTIFICATE)])) rfl (by rw [hml]; rfl) (ps := [.boolean]) (r := (some .boolean)) (by decide +kernel) rfl rfl (W := 0) (by show 2 * 0 + _ ≤ _; exact Nat.le_of_eq rfl) (hb hby at_82) (by decide) (by decide) (by decide) (by decide)
      have N4 := Fr.app N0 (Fr.nil n0)
      refine own_go st4 ?_
      show own_G p e below _ T4 (mkF m 85 #[.val (.int i0), .val (.int i1), .val (.int (0 : Int32)), .val (.int (0 : Int32)), .val (.ref a_CERTIFICATE), .val (.int (1 : Int32))] [(.int (own_take a_CERTIFICATE (0 : Int32) (0 : Int32) (1 : Int32)))])
      have r4 : (own_take a_CERTIFICATE (0 : Int32) (0 : Int32) (1 : Int32)) = (1 : Int32) := by unfold own_take; rw [if_pos (show ((0 : Int32) = (0 : Int32)) by decide)]; rfl
      rw [r4]
      show own_G p e below _ T4 (mkF m 85 #[.val (.int i0), .val (.int i1), .val (.int (0 : Int32)), .val (.int (0 : Int32)), .val (.ref a_CERTIFICATE), .val (.int (1 : Int32))] [(.int (1 : Int32))])
      refine own_go (fun t k => XS.iload X4.here hx rfl (hb hby at_85) rfl k) ?_
      show own_G p e below _ T4 (mkF m 87 #[.val (.int i0), .val (.int i1), .val (.int (0 : Int32)), .val (.int (0 : Int32)), .val (.ref a_CERTIFICATE), .val (.int (1 : Int32))] [(.int (1 : Int32)), (.int (1 : Int32))])
      refine own_go (fun t k => XS.icmpNo X4.here hx rfl (hb hby at_87) rfl (by decide) k) ?_
      show own_G p e below _ T4 (mkF m 90 #[.val (.int i0), .val (.int i1), .val (.int (0 : Int32)), .val (.int (0 : Int32)), .val (.ref a_CERTIFICATE), .val (.int (1 : Int32))] [])
      refine own_go (fun t k => XS.iconst X4.here hx rfl (hb hby at_90) k) ?_
      show own_G p e below _ T4 (mkF m 91 #[.val (.int i0), .val (.int i1), .val (.int (0 : Int32)), .val (.int (0 : Int32)), .val (.ref a_CERTIFICATE), .val (.int (1 : Int32))] [(.int (1 : Int32))])
      refine own_go (fun t k => XS.goto X4.here hx rfl (pc0 := 91) (pc' := 95) rfl (hb hby at_91) (by decide) (by decide) k) ?_
      show own_G p e below _ T4 (mkF m 95 #[.val (.int i0), .val (.int i1), .val (.int (0 : Int32)), .val (.int (0 : Int32)), .val (.ref a_CERTIFICATE), .val (.int (1 : Int32))] [(.int (1 : Int32))])
      exact own_retN X4 hx hlk hret (by simp) (hb hby at_95) (by decide) (by decide) ⟨rfl, N4⟩
    · rw [hk2]
      show own_G p e below _ T0 (mkF m 10 #[.val (.int i0), .val (.int i1), .val (.int (0 : Int32)), .unset, .unset, .unset] [(.int (1 : Int32))])
      refine own_go (fun t k => XS.ifNo X0.here hx rfl (hb hby at_10) rfl (by decide) k) ?_
      show own_G p e below _ T0 (mkF m 13 #[.val (.int i0), .val (.int i1), .val (.int (0 : Int32)), .unset, .unset, .unset] [])
      refine own_go (fun t k => XS.iconst X0.here hx rfl (hb hby at_13) k) ?_
      show own_G p e below _ T0 (mkF m 14 #[.val (.int i0), .val (.int i1), .val (.int (0 : Int32)), .unset, .unset, .unset] [(.int (1 : Int32))])
      refine own_go (fun t k => XS.goto X0.here hx rfl (pc0 := 14) (pc' := 18) rfl (hb hby at_14) (by decide) (by decide) k) ?_
      show own_G p e below _ T0 (mkF m 18 #[.val (.int i0), .val (.int i1), .val (.int (0 : Int32)), .unset, .unset, .unset] [(.int (1 : Int32))])
      refine own_go (fun t k => XS.istoreN X0.here hx rfl (hb hby at_18) rfl (l' := #[.val (.int i0), .val (.int i1), .val (.int (0 : Int32)), .val (.int (1 : Int32)), .unset, .unset]) rfl k) ?_
      show own_G p e below _ T0 (mkF m 19 #[.val (.int i0), .val (.int i1), .val (.int (0 : Int32)), .val (.int (1 : Int32)), .unset, .unset] [])
      refine own_go (fun t k => XS.iloadN X0.here hx rfl (hb hby at_19) rfl k) ?_
      show own_G p e below _ T0 (mkF m 20 #[.val (.int i0), .val (.int i1), .val (.int (0 : Int32)), .val (.int (1 : Int32)), .unset, .unset] [(.int (0 : Int32))])
      refine own_go (fun t k => XS.ifNo X0.here hx rfl (hb hby at_20) rfl (by decide) k) ?_
      show own_G p e below _ T0 (mkF m 23 #[.val (.int i0), .val (.int i1), .val (.int (0 : Int32)), .val (.int (1 : Int32)), .unset, .unset] [])
      obtain ⟨T5, X5, e5, st5⟩ := getS X0 hx hZ hown (host := "") (hw _ (List.mem_of_getElem? (i := 1) rfl)) Via.refl e0 S_CERTIFICATE (g := (mkF m 23 #[.val (.int i0), .val (.int i1), .val (.int (0 : Int32)), .val (.int (1 : Int32)), .unset, .unset] [])) rfl (hb hby at_23)
      refine own_go st5 ?_
      show own_G p e below _ T5 (mkF m 26 #[.val (.int i0), .val (.int i1), .val (.int (0 : Int32)), .val (.int (1 : Int32)), .unset, .unset] [(.ref a_CERTIFICATE)])
      refine own_go (fun t k => XS.astore X5.here hx rfl (hb hby at_26) rfl rfl (l' := #[.val (.int i0), .val (.int i1), .val (.int (0 : Int32)), .val (.int (1 : Int32)), .val (.ref a_CERTIFICATE), .unset]) rfl k) ?_
      show own_G p e below _ T5 (mkF m 28 #[.val (.int i0), .val (.int i1), .val (.int (0 : Int32)), .val (.int (1 : Int32)), .val (.ref a_CERTIFICATE), .unset] [])
      refine own_go (fun t k => XS.goto X5.here hx rfl (pc0 := 28) (pc' := 49) rfl (hb hby at_28) (by decide) (by decide) k) ?_
      show own_G p e below _ T5 (mkF m 49 #[.val (.int i0), .val (.int i1), .val (.int (0 : Int32)), .val (.int (1 : Int32)), .val (.ref a_CERTIFICATE), .unset] [])
      refine own_go (fun t k => XS.iloadN X5.here hx rfl (hb hby at_49) rfl k) ?_
      show own_G p e below _ T5 (mkF m 50 #[.val (.int i0), .val (.int i1), .val (.int (0 : Int32)), .val (.int (1 : Int32)), .val (.ref a_CERTIFICATE), .unset] [(.int (1 : Int32))])
      refine own_go (fun t k => XS.ifNo X5.here hx rfl (hb hby at_50) rfl (by decide) k) ?_
      show own_G p e below _ T5 (mkF m 53 #[.val (.int i0), .val (.int i1), .val (.int (0 : Int32)), .val (.int (1 : Int32)), .val (.ref a_CERTIFICATE), .unset] [])
      refine own_go (fun t k => XS.iloadN X5.here hx rfl (hb hby at_53) rfl k) ?_
      show own_G p e below _ T5 (mkF m 54 #[.val (.int i0), .val (.int i1), .val (.int (0 : Int32)), .val (.int (1 : Int32)), .val (.ref a_CERTIFICATE), .unset] [(.int (0 : Int32))])
      refine own_go (fun t k => XS.ifYes X5.here hx rfl (pc0 := 54) (pc' := 61) rfl (hb hby at_54) rfl (by decide) (by decide) (by decide) k) ?_
      show own_G p e below _ T5 (mkF m 61 #[.val (.int i0), .val (.int i1), .val (.int (0 : Int32)), .val (.int (1 : Int32)), .val (.ref a_CERTIFICATE), .unset] [])
      refine own_go (fun t k => XS.iconst X5.here hx rfl (hb hby at_61) k) ?_
      show own_G p e below _ T5 (mkF m 62 #[.val (.int i0), .val (.int i1), .val (.int (0 : Int32)), .val (.int (1 : Int32)), .val (.ref a_CERTIFICATE), .unset] [(.int (0 : Int32))])
      refine own_go (fun t k => XS.istore X5.here hx rfl (hb hby at_62) rfl (l' := #[.val (.int i0), .val (.int i1), .val (.int (0 : Int32)), .val (.int (1 : Int32)), .val (.ref a_CERTIFICATE), .val (.int (0 : Int32))]) rfl k) ?_
      show own_G p e below _ T5 (mkF m 64 #[.val (.int i0), .val (.int i1), .val (.int (0 : Int32)), .val (.int (1 : Int32)), .val (.ref a_CERTIFICATE), .val (.int (0 : Int32))] [])
      refine own_go (fun t k => XS.goto X5.here hx rfl (pc0 := 64) (pc' := 79) rfl (hb hby at_64) (by decide) (by decide) k) ?_
      show own_G p e below _ T5 (mkF m 79 #[.val (.int i0), .val (.int i1), .val (.int (0 : Int32)), .val (.int (1 : Int32)), .val (.ref a_CERTIFICATE), .val (.int (0 : Int32))] [])
      refine own_go (fun t k => XS.aload X5.here hx rfl (hb hby at_79) rfl rfl k) ?_
      show own_G p e below _ T5 (mkF m 81 #[.val (.int i0), .val (.int i1), .val (.int (0 : Int32)), .val (.int (1 : Int32)), .val (.ref a_CERTIFICATE), .val (.int (0 : Int32))] [(.ref a_CERTIFICATE)])
      refine own_go (fun t k => XS.iloadN X5.here hx rfl (hb hby at_81) rfl k) ?_
      show own_G p e below _ T5 (mkF m 82 #[.val (.int i0), .val (.int i1), .val (.int (0 : Int32)), .val (.int (1 : Int32)), .val (.ref a_CERTIFICATE), .val (.int (0 : Int32))] [(.int (1 : Int32)), (.ref a_CERTIFICATE)])
      obtain ⟨T6, L6, v6, X6, ⟨rfl, rfl, q6⟩, st6⟩ := own_callV X5 hx hZ (y := (⟨"com/example/willebroek/willebroek/security/TokenKinds", "take", "(Z)Z"⟩ : MethodName)) (z := (⟨"com/example/willebroek/willebroek/security/TokenKinds", "take", "(Z)Z"⟩ : MethodName)) hown (hw _ (List.mem_of_getElem? (i := 4) rfl)) (hw _ (List.mem_of_getElem? (i := 5) rfl)) (hw _ (List.mem_of_getElem? (i := 7) rfl)) (hw _ (List.mem_of_getElem? (i := 7) rfl)) (hw _ (List.mem_of_getElem? (i := 6) rfl)) (hw _ (List.mem_of_getElem? (i := 8) rfl)) (hw _ (List.mem_of_getElem? (i := 2) rfl)) (notFace_of_selects (args := #[]) (mvT hZ (hw _ (List.mem_of_getElem? (i := 7) rfl)))) (by decide) (c_take l Z a0 hw a_CERTIFICATE (1 : Int32) (0 : Int32) (1 : Int32) h0  F_CERTIFICATE_assertion F_CERTIFICATE_certificate) e5 E_CERTIFICATE (argsL := [(.int (1 : Int32))]) (rest := []) (g := (mkF m 82 #[.val (.int i0), .val (.int i1), .val (.int (0 : Int32)), .val (.int (1 : Int32)), .val (.ref a_CERTIFICATE), .val (.int (0 : Int32))] [(.int (1 : Int32)), (.ref a_CERTIFICATE)])) rfl (by rw [hml]; rfl) (ps := [.boolean]) (r := (some .boolean)) (by decide +kernel) rfl rfl (W := 0) (by show 2 * 0 + _ ≤ _; exact Nat.le_of_eq rfl) (hb hby at_82) (by decide) (by decide) (by decide) (by decide)
      have N6 := Fr.app N0 (Fr.nil n0)
      refine own_go st6 ?_
      show own_G p e below _ T6 (mkF m 85 #[.val (.int i0), .val (.int i1), .val (.int (0 : Int32)), .val (.int (1 : Int32)), .val (.ref a_CERTIFICATE), .val (.int (0 : Int32))] [(.int (own_take a_CERTIFICATE (1 : Int32) (0 : Int32) (1 : Int32)))])
      have r6 : (own_take a_CERTIFICATE (1 : Int32) (0 : Int32) (1 : Int32)) = (0 : Int32) := by unfold own_take; rw [if_neg (show ¬ ((1 : Int32) = (0 : Int32)) by decide)]; rfl
      rw [r6]
      show own_G p e below _ T6 (mkF m 85 #[.val (.int i0), .val (.int i1), .val (.int (0 : Int32)), .val (.int (1 : Int32)), .val (.ref a_CERTIFICATE), .val (.int (0 : Int32))] [(.int (0 : Int32))])
      refine own_go (fun t k => XS.iload X6.here hx rfl (hb hby at_85) rfl k) ?_
      show own_G p e below _ T6 (mkF m 87 #[.val (.int i0), .val (.int i1), .val (.int (0 : Int32)), .val (.int (1 : Int32)), .val (.ref a_CERTIFICATE), .val (.int (0 : Int32))] [(.int (0 : Int32)), (.int (0 : Int32))])
      refine own_go (fun t k => XS.icmpNo X6.here hx rfl (hb hby at_87) rfl (by decide) k) ?_
      show own_G p e below _ T6 (mkF m 90 #[.val (.int i0), .val (.int i1), .val (.int (0 : Int32)), .val (.int (1 : Int32)), .val (.ref a_CERTIFICATE), .val (.int (0 : Int32))] [])
      refine own_go (fun t k => XS.iconst X6.here hx rfl (hb hby at_90) k) ?_
      show own_G p e below _ T6 (mkF m 91 #[.val (.int i0), .val (.int i1), .val (.int (0 : Int32)), .val (.int (1 : Int32)), .val (.ref a_CERTIFICATE), .val (.int (0 : Int32))] [(.int (1 : Int32))])
      refine own_go (fun t k => XS.goto X6.here hx rfl (pc0 := 91) (pc' := 95) rfl (hb hby at_91) (by decide) (by decide) k) ?_
      show own_G p e below _ T6 (mkF m 95 #[.val (.int i0), .val (.int i1), .val (.int (0 : Int32)), .val (.int (1 : Int32)), .val (.ref a_CERTIFICATE), .val (.int (0 : Int32))] [(.int (1 : Int32))])
      exact own_retN X6 hx hlk hret (by simp) (hb hby at_95) (by decide) (by decide) ⟨rfl, N6⟩
  · rw [hk1]
    show own_G p e below _ T0 (mkF m 6 #[.val (.int i0), .val (.int i1), .unset, .unset, .unset, .unset] [(.int (1 : Int32))])
    refine own_go (fun t k => XS.istoreN X0.here hx rfl (hb hby at_6) rfl (l' := #[.val (.int i0), .val (.int i1), .val (.int (1 : Int32)), .unset, .unset, .unset]) rfl k) ?_
    show own_G p e below _ T0 (mkF m 7 #[.val (.int i0), .val (.int i1), .val (.int (1 : Int32)), .unset, .unset, .unset] [])
    refine own_go (fun t k => XS.iloadN X0.here hx rfl (hb hby at_7) rfl k) ?_
    show own_G p e below _ T0 (mkF m 8 #[.val (.int i0), .val (.int i1), .val (.int (1 : Int32)), .unset, .unset, .unset] [(.int i1)])
    refine own_go (fun t k => XS.iconst X0.here hx rfl (hb hby at_8) k) ?_
    show own_G p e below _ T0 (mkF m 9 #[.val (.int i0), .val (.int i1), .val (.int (1 : Int32)), .unset, .unset, .unset] [(.int (1 : Int32)), (.int i1)])
    refine own_go (fun t k => XS.iand X0.here hx rfl (hb hby at_9) rfl k) ?_
    show own_G p e below _ T0 (mkF m 10 #[.val (.int i0), .val (.int i1), .val (.int (1 : Int32)), .unset, .unset, .unset] [(.int (i1 &&& (1 : Int32)))])
    rcases hf with hk7 | hk7
    · rw [hk7]
      show own_G p e below _ T0 (mkF m 10 #[.val (.int i0), .val (.int i1), .val (.int (1 : Int32)), .unset, .unset, .unset] [(.int (0 : Int32))])
      refine own_go (fun t k => XS.ifYes X0.here hx rfl (pc0 := 10) (pc' := 17) rfl (hb hby at_10) rfl (by decide) (by decide) (by decide) k) ?_
      show own_G p e below _ T0 (mkF m 17 #[.val (.int i0), .val (.int i1), .val (.int (1 : Int32)), .unset, .unset, .unset] [])
      refine own_go (fun t k => XS.iconst X0.here hx rfl (hb hby at_17) k) ?_
      show own_G p e below _ T0 (mkF m 18 #[.val (.int i0), .val (.int i1), .val (.int (1 : Int32)), .unset, .unset, .unset] [(.int (0 : Int32))])
      refine own_go (fun t k => XS.istoreN X0.here hx rfl (hb hby at_18) rfl (l' := #[.val (.int i0), .val (.int i1), .val (.int (1 : Int32)), .val (.int (0 : Int32)), .unset, .unset]) rfl k) ?_
      show own_G p e below _ T0 (mkF m 19 #[.val (.int i0), .val (.int i1), .val (.int (1 : Int32)), .val (.int (0 : Int32)), .unset, .unset] [])
      refine own_go (fun t k => XS.iloadN X0.here hx rfl (hb hby at_19) rfl k) ?_
      show own_G p e below _ T0 (mkF m 20 #[.val (.int i0), .val (.int i1), .val (.int (1 : Int32)), .val (.int (0 : Int32)), .unset, .unset] [(.int (1 : Int32))])
      refine own_go (fun t k => XS.ifYes X0.here hx rfl (pc0 := 20) (pc' := 31) rfl (hb hby at_20) rfl (by decide) (by decide) (by decide) k) ?_
      show own_G p e below _ T0 (mkF m 31 #[.val (.int i0), .val (.int i1), .val (.int (1 : Int32)), .val (.int (0 : Int32)), .unset, .unset] [])
      refine own_go (fun t k => XS.iloadN X0.here hx rfl (hb hby at_31) rfl k) ?_
      show own_G p e below _ T0 (mkF m 32 #[.val (.int i0), .val (.int i1), .val (.int (1 : Int32)), .val (.int (0 : Int32)), .unset, .unset] [(.int (1 : Int32))])
      refine own_go (fun t k => XS.iconst X0.here hx rfl (hb hby at_32) k) ?_
      show own_G p e below _ T0 (mkF m 33 #[.val (.int i0), .val (.int i1), .val (.int (1 : Int32)), .val (.int (0 : Int32)), .unset, .unset] [(.int (1 : Int32)), (.int (1 : Int32))])
      refine own_go (fun t k => XS.icmpNo X0.here hx rfl (hb hby at_33) rfl (by decide) k) ?_
      show own_G p e below _ T0 (mkF m 36 #[.val (.int i0), .val (.int i1), .val (.int (1 : Int32)), .val (.int (0 : Int32)), .unset, .unset] [])
      obtain ⟨T8, X8, e8, st8⟩ := getS X0 hx hZ hown (host := "") (hw _ (List.mem_of_getElem? (i := 15) rfl)) Via.refl e0 S_CERTIFICATE_OR_ASSERTION (g := (mkF m 36 #[.val (.int i0), .val (.int i1), .val (.int (1 : Int32)), .val (.int (0 : Int32)), .unset, .unset] [])) rfl (hb hby at_36)
      refine own_go st8 ?_
      show own_G p e below _ T8 (mkF m 39 #[.val (.int i0), .val (.int i1), .val (.int (1 : Int32)), .val (.int (0 : Int32)), .unset, .unset] [(.ref a_CERTIFICATE_OR_ASSERTION)])
      refine own_go (fun t k => XS.astore X8.here hx rfl (hb hby at_39) rfl rfl (l' := #[.val (.int i0), .val (.int i1), .val (.int (1 : Int32)), .val (.int (0 : Int32)), .val (.ref a_CERTIFICATE_OR_ASSERTION), .unset]) rfl k) ?_
      show own_G p e below _ T8 (mkF m 41 #[.val (.int i0), .val (.int i1), .val (.int (1 : Int32)), .val (.int (0 : Int32)), .val (.ref a_CERTIFICATE_OR_ASSERTION), .unset] [])
      refine own_go (fun t k => XS.goto X8.here hx rfl (pc0 := 41) (pc' := 49) rfl (hb hby at_41) (by decide) (by decide) k) ?_
      show own_G p e below _ T8 (mkF m 49 #[.val (.int i0), .val (.int i1), .val (.int (1 : Int32)), .val (.int (0 : Int32)), .val (.ref a_CERTIFICATE_OR_ASSERTION), .unset] [])
      refine own_go (fun t k => XS.iloadN X8.here hx rfl (hb hby at_49) rfl k) ?_
      show own_G p e below _ T8 (mkF m 50 #[.val (.int i0), .val (.int i1), .val (.int (1 : Int32)), .val (.int (0 : Int32)), .val (.ref a_CERTIFICATE_OR_ASSERTION), .unset] [(.int (0 : Int32))])
      refine own_go (fun t k => XS.ifYes X8.here hx rfl (pc0 := 50) (pc' := 67) rfl (hb hby at_50) rfl (by decide) (by decide) (by decide) k) ?_
      show own_G p e below _ T8 (mkF m 67 #[.val (.int i0), .val (.int i1), .val (.int (1 : Int32)), .val (.int (0 : Int32)), .val (.ref a_CERTIFICATE_OR_ASSERTION), .unset] [])
      refine own_go (fun t k => XS.iloadN X8.here hx rfl (hb hby at_67) rfl k) ?_
      show own_G p e below _ T8 (mkF m 68 #[.val (.int i0), .val (.int i1), .val (.int (1 : Int32)), .val (.int (0 : Int32)), .val (.ref a_CERTIFICATE_OR_ASSERTION), .unset] [(.int (1 : Int32))])
      refine own_go (fun t k => XS.iconst X8.here hx rfl (hb hby at_68) k) ?_
      show own_G p e below _ T8 (mkF m 69 #[.val (.int i0), .val (.int i1), .val (.int (1 : Int32)), .val (.int (0 : Int32)), .val (.ref a_CERTIFICATE_OR_ASSERTION), .unset] [(.int (2 : Int32)), (.int (1 : Int32))])
      refine own_go (fun t k => XS.icmpNo X8.here hx rfl (hb hby at_69) rfl (by decide) k) ?_
      show own_G p e below _ T8 (mkF m 72 #[.val (.int i0), .val (.int i1), .val (.int (1 : Int32)), .val (.int (0 : Int32)), .val (.ref a_CERTIFICATE_OR_ASSERTION), .unset] [])
      refine own_go (fun t k => XS.iconst X8.here hx rfl (hb hby at_72) k) ?_
      show own_G p e below _ T8 (mkF m 73 #[.val (.int i0), .val (.int i1), .val (.int (1 : Int32)), .val (.int (0 : Int32)), .val (.ref a_CERTIFICATE_OR_ASSERTION), .unset] [(.int (1 : Int32))])
      refine own_go (fun t k => XS.goto X8.here hx rfl (pc0 := 73) (pc' := 77) rfl (hb hby at_73) (by decide) (by decide) k) ?_
      show own_G p e below _ T8 (mkF m 77 #[.val (.int i0), .val (.int i1), .val (.int (1 : Int32)), .val (.int (0 : Int32)), .val (.ref a_CERTIFICATE_OR_ASSERTION), .unset] [(.int (1 : Int32))])
      refine own_go (fun t k => XS.istore X8.here hx rfl (hb hby at_77) rfl (l' := #[.val (.int i0), .val (.int i1), .val (.int (1 : Int32)), .val (.int (0 : Int32)), .val (.ref a_CERTIFICATE_OR_ASSERTION), .val (.int (1 : Int32))]) rfl k) ?_
      show own_G p e below _ T8 (mkF m 79 #[.val (.int i0), .val (.int i1), .val (.int (1 : Int32)), .val (.int (0 : Int32)), .val (.ref a_CERTIFICATE_OR_ASSERTION), .val (.int (1 : Int32))] [])
      refine own_go (fun t k => XS.aload X8.here hx rfl (hb hby at_79) rfl rfl k) ?_
      show own_G p e below _ T8 (mkF m 81 #[.val (.int i0), .val (.int i1), .val (.int (1 : Int32)), .val (.int (0 : Int32)), .val (.ref a_CERTIFICATE_OR_ASSERTION), .val (.int (1 : Int32))] [(.ref a_CERTIFICATE_OR_ASSERTION)])
      refine own_go (fun t k => XS.iloadN X8.here hx rfl (hb hby at_81) rfl k) ?_
      show own_G p e below _ T8 (mkF m 82 #[.val (.int i0), .val (.int i1), .val (.int (1 : Int32)), .val (.int (0 : Int32)), .val (.ref a_CERTIFICATE_OR_ASSERTION), .val (.int (1 : Int32))] [(.int (0 : Int32)), (.ref a_CERTIFICATE_OR_ASSERTION)])
      obtain ⟨T9, L9, v9, X9, ⟨rfl, rfl, q9⟩, st9⟩ := own_callV X8 hx hZ (y := (⟨"com/example/willebroek/willebroek/security/TokenKinds", "take", "(Z)Z"⟩ : MethodName)) (z := (⟨"com/example/willebroek/willebroek/security/TokenKinds", "take", "(Z)Z"⟩ : MethodName)) hown (hw _ (List.mem_of_getElem? (i := 4) rfl)) (hw _ (List.mem_of_getElem? (i := 5) rfl)) (hw _ (List.mem_of_getElem? (i := 7) rfl)) (hw _ (List.mem_of_getElem? (i := 7) rfl)) (hw _ (List.mem_of_getElem? (i := 6) rfl)) (hw _ (List.mem_of_getElem? (i := 8) rfl)) (hw _ (List.mem_of_getElem? (i := 2) rfl)) (notFace_of_selects (args := #[]) (mvT hZ (hw _ (List.mem_of_getElem? (i := 7) rfl)))) (by decide) (c_take l Z a0 hw a_CERTIFICATE_OR_ASSERTION (0 : Int32) (1 : Int32) (1 : Int32) h0  F_CERTIFICATE_OR_ASSERTION_assertion F_CERTIFICATE_OR_ASSERTION_certificate) e8 E_CERTIFICATE_OR_ASSERTION (argsL := [(.int (0 : Int32))]) (rest := []) (g := (mkF m 82 #[.val (.int i0), .val (.int i1), .val (.int (1 : Int32)), .val (.int (0 : Int32)), .val (.ref a_CERTIFICATE_OR_ASSERTION), .val (.int (1 : Int32))] [(.int (0 : Int32)), (.ref a_CERTIFICATE_OR_ASSERTION)])) rfl (by rw [hml]; rfl) (ps := [.boolean]) (r := (some .boolean)) (by decide +kernel) rfl rfl (W := 0) (by show 2 * 0 + _ ≤ _; exact Nat.le_of_eq rfl) (hb hby at_82) (by decide) (by decide) (by decide) (by decide)
      have N9 := Fr.app N0 (Fr.nil n0)
      refine own_go st9 ?_
      show own_G p e below _ T9 (mkF m 85 #[.val (.int i0), .val (.int i1), .val (.int (1 : Int32)), .val (.int (0 : Int32)), .val (.ref a_CERTIFICATE_OR_ASSERTION), .val (.int (1 : Int32))] [(.int (own_take a_CERTIFICATE_OR_ASSERTION (0 : Int32) (1 : Int32) (1 : Int32)))])
      have r9 : (own_take a_CERTIFICATE_OR_ASSERTION (0 : Int32) (1 : Int32) (1 : Int32)) = (1 : Int32) := by unfold own_take; rw [if_pos (show ((0 : Int32) = (0 : Int32)) by decide)]; rfl
      rw [r9]
      show own_G p e below _ T9 (mkF m 85 #[.val (.int i0), .val (.int i1), .val (.int (1 : Int32)), .val (.int (0 : Int32)), .val (.ref a_CERTIFICATE_OR_ASSERTION), .val (.int (1 : Int32))] [(.int (1 : Int32))])
      refine own_go (fun t k => XS.iload X9.here hx rfl (hb hby at_85) rfl k) ?_
      show own_G p e below _ T9 (mkF m 87 #[.val (.int i0), .val (.int i1), .val (.int (1 : Int32)), .val (.int (0 : Int32)), .val (.ref a_CERTIFICATE_OR_ASSERTION), .val (.int (1 : Int32))] [(.int (1 : Int32)), (.int (1 : Int32))])
      refine own_go (fun t k => XS.icmpNo X9.here hx rfl (hb hby at_87) rfl (by decide) k) ?_
      show own_G p e below _ T9 (mkF m 90 #[.val (.int i0), .val (.int i1), .val (.int (1 : Int32)), .val (.int (0 : Int32)), .val (.ref a_CERTIFICATE_OR_ASSERTION), .val (.int (1 : Int32))] [])
      refine own_go (fun t k => XS.iconst X9.here hx rfl (hb hby at_90) k) ?_
      show own_G p e below _ T9 (mkF m 91 #[.val (.int i0), .val (.int i1), .val (.int (1 : Int32)), .val (.int (0 : Int32)), .val (.ref a_CERTIFICATE_OR_ASSERTION), .val (.int (1 : Int32))] [(.int (1 : Int32))])
      refine own_go (fun t k => XS.goto X9.here hx rfl (pc0 := 91) (pc' := 95) rfl (hb hby at_91) (by decide) (by decide) k) ?_
      show own_G p e below _ T9 (mkF m 95 #[.val (.int i0), .val (.int i1), .val (.int (1 : Int32)), .val (.int (0 : Int32)), .val (.ref a_CERTIFICATE_OR_ASSERTION), .val (.int (1 : Int32))] [(.int (1 : Int32))])
      exact own_retN X9 hx hlk hret (by simp) (hb hby at_95) (by decide) (by decide) ⟨rfl, N9⟩
    · rw [hk7]
      show own_G p e below _ T0 (mkF m 10 #[.val (.int i0), .val (.int i1), .val (.int (1 : Int32)), .unset, .unset, .unset] [(.int (1 : Int32))])
      refine own_go (fun t k => XS.ifNo X0.here hx rfl (hb hby at_10) rfl (by decide) k) ?_
      show own_G p e below _ T0 (mkF m 13 #[.val (.int i0), .val (.int i1), .val (.int (1 : Int32)), .unset, .unset, .unset] [])
      refine own_go (fun t k => XS.iconst X0.here hx rfl (hb hby at_13) k) ?_
      show own_G p e below _ T0 (mkF m 14 #[.val (.int i0), .val (.int i1), .val (.int (1 : Int32)), .unset, .unset, .unset] [(.int (1 : Int32))])
      refine own_go (fun t k => XS.goto X0.here hx rfl (pc0 := 14) (pc' := 18) rfl (hb hby at_14) (by decide) (by decide) k) ?_
      show own_G p e below _ T0 (mkF m 18 #[.val (.int i0), .val (.int i1), .val (.int (1 : Int32)), .unset, .unset, .unset] [(.int (1 : Int32))])
      refine own_go (fun t k => XS.istoreN X0.here hx rfl (hb hby at_18) rfl (l' := #[.val (.int i0), .val (.int i1), .val (.int (1 : Int32)), .val (.int (1 : Int32)), .unset, .unset]) rfl k) ?_
      show own_G p e below _ T0 (mkF m 19 #[.val (.int i0), .val (.int i1), .val (.int (1 : Int32)), .val (.int (1 : Int32)), .unset, .unset] [])
      refine own_go (fun t k => XS.iloadN X0.here hx rfl (hb hby at_19) rfl k) ?_
      show own_G p e below _ T0 (mkF m 20 #[.val (.int i0), .val (.int i1), .val (.int (1 : Int32)), .val (.int (1 : Int32)), .unset, .unset] [(.int (1 : Int32))])
      refine own_go (fun t k => XS.ifYes X0.here hx rfl (pc0 := 20) (pc' := 31) rfl (hb hby at_20) rfl (by decide) (by decide) (by decide) k) ?_
      show own_G p e below _ T0 (mkF m 31 #[.val (.int i0), .val (.int i1), .val (.int (1 : Int32)), .val (.int (1 : Int32)), .unset, .unset] [])
      refine own_go (fun t k => XS.iloadN X0.here hx rfl (hb hby at_31) rfl k) ?_
      show own_G p e below _ T0 (mkF m 32 #[.val (.int i0), .val (.int i1), .val (.int (1 : Int32)), .val (.int (1 : Int32)), .unset, .unset] [(.int (1 : Int32))])
      refine own_go (fun t k => XS.iconst X0.here hx rfl (hb hby at_32) k) ?_
      show own_G p e below _ T0 (mkF m 33 #[.val (.int i0), .val (.int i1), .val (.int (1 : Int32)), .val (.int (1 : Int32)), .unset, .unset] [(.int (1 : Int32)), (.int (1 : Int32))])
      refine own_go (fun t k => XS.icmpNo X0.here hx rfl (hb hby at_33) rfl (by decide) k) ?_
      show own_G p e below _ T0 (mkF m 36 #[.val (.int i0), .val (.int i1), .val (.int (1 : Int32)), .val (.int (1 : Int32)), .unset, .unset] [])
      obtain ⟨T10, X10, e10, st10⟩ := getS X0 hx hZ hown (host := "") (hw _ (List.mem_of_getElem? (i := 15) rfl)) Via.refl e0 S_CERTIFICATE_OR_ASSERTION (g := (mkF m 36 #[.val (.int i0), .val (.int i1), .val (.int (1 : Int32)), .val (.int (1 : Int32)), .unset, .unset] [])) rfl (hb hby at_36)
      refine own_go st10 ?_
      show own_G p e below _ T10 (mkF m 39 #[.val (.int i0), .val (.int i1), .val (.int (1 : Int32)), .val (.int (1 : Int32)), .unset, .unset] [(.ref a_CERTIFICATE_OR_ASSERTION)])
      refine own_go (fun t k => XS.astore X10.here hx rfl (hb hby at_39) rfl rfl (l' := #[.val (.int i0), .val (.int i1), .val (.int (1 : Int32)), .val (.int (1 : Int32)), .val (.ref a_CERTIFICATE_OR_ASSERTION), .unset]) rfl k) ?_
      show own_G p e below _ T10 (mkF m 41 #[.val (.int i0), .val (.int i1), .val (.int (1 : Int32)), .val (.int (1 : Int32)), .val (.ref a_CERTIFICATE_OR_ASSERTION), .unset] [])
      refine own_go (fun t k => XS.goto X10.here hx rfl (pc0 := 41) (pc' := 49) rfl (hb hby at_41) (by decide) (by decide) k) ?_
      show own_G p e below _ T10 (mkF m 49 #[.val (.int i0), .val (.int i1), .val (.int (1 : Int32)), .val (.int (1 : Int32)), .val (.ref a_CERTIFICATE_OR_ASSERTION), .unset] [])
      refine own_go (fun t k => XS.iloadN X10.here hx rfl (hb hby at_49) rfl k) ?_
      show own_G p e below _ T10 (mkF m 50 #[.val (.int i0), .val (.int i1), .val (.int (1 : Int32)), .val (.int (1 : Int32)), .val (.ref a_CERTIFICATE_OR_ASSERTION), .unset] [(.int (1 : Int32))])
      refine own_go (fun t k => XS.ifNo X10.here hx rfl (hb hby at_50) rfl (by decide) k) ?_
      show own_G p e below _ T10 (mkF m 53 #[.val (.int i0), .val (.int i1), .val (.int (1 : Int32)), .val (.int (1 : Int32)), .val (.ref a_CERTIFICATE_OR_ASSERTION), .unset] [])
      refine own_go (fun t k => XS.iloadN X10.here hx rfl (hb hby at_53) rfl k) ?_
      show own_G p e below _ T10 (mkF m 54 #[.val (.int i0), .val (.int i1), .val (.int (1 : Int32)), .val (.int (1 : Int32)), .val (.ref a_CERTIFICATE_OR_ASSERTION), .unset] [(.int (1 : Int32))])
      refine own_go (fun t k => XS.ifNo X10.here hx rfl (hb hby at_54) rfl (by decide) k) ?_
      show own_G p e below _ T10 (mkF m 57 #[.val (.int i0), .val (.int i1), .val (.int (1 : Int32)), .val (.int (1 : Int32)), .val (.ref a_CERTIFICATE_OR_ASSERTION), .unset] [])
      refine own_go (fun t k => XS.iconst X10.here hx rfl (hb hby at_57) k) ?_
      show own_G p e below _ T10 (mkF m 58 #[.val (.int i0), .val (.int i1), .val (.int (1 : Int32)), .val (.int (1 : Int32)), .val (.ref a_CERTIFICATE_OR_ASSERTION), .unset] [(.int (1 : Int32))])
      refine own_go (fun t k => XS.goto X10.here hx rfl (pc0 := 58) (pc' := 62) rfl (hb hby at_58) (by decide) (by decide) k) ?_
      show own_G p e below _ T10 (mkF m 62 #[.val (.int i0), .val (.int i1), .val (.int (1 : Int32)), .val (.int (1 : Int32)), .val (.ref a_CERTIFICATE_OR_ASSERTION), .unset] [(.int (1 : Int32))])
      refine own_go (fun t k => XS.istore X10.here hx rfl (hb hby at_62) rfl (l' := #[.val (.int i0), .val (.int i1), .val (.int (1 : Int32)), .val (.int (1 : Int32)), .val (.ref a_CERTIFICATE_OR_ASSERTION), .val (.int (1 : Int32))]) rfl k) ?_
      show own_G p e below _ T10 (mkF m 64 #[.val (.int i0), .val (.int i1), .val (.int (1 : Int32)), .val (.int (1 : Int32)), .val (.ref a_CERTIFICATE_OR_ASSERTION), .val (.int (1 : Int32))] [])
      refine own_go (fun t k => XS.goto X10.here hx rfl (pc0 := 64) (pc' := 79) rfl (hb hby at_64) (by decide) (by decide) k) ?_
      show own_G p e below _ T10 (mkF m 79 #[.val (.int i0), .val (.int i1), .val (.int (1 : Int32)), .val (.int (1 : Int32)), .val (.ref a_CERTIFICATE_OR_ASSERTION), .val (.int (1 : Int32))] [])
      refine own_go (fun t k => XS.aload X10.here hx rfl (hb hby at_79) rfl rfl k) ?_
      show own_G p e below _ T10 (mkF m 81 #[.val (.int i0), .val (.int i1), .val (.int (1 : Int32)), .val (.int (1 : Int32)), .val (.ref a_CERTIFICATE_OR_ASSERTION), .val (.int (1 : Int32))] [(.ref a_CERTIFICATE_OR_ASSERTION)])
      refine own_go (fun t k => XS.iloadN X10.here hx rfl (hb hby at_81) rfl k) ?_
      show own_G p e below _ T10 (mkF m 82 #[.val (.int i0), .val (.int i1), .val (.int (1 : Int32)), .val (.int (1 : Int32)), .val (.ref a_CERTIFICATE_OR_ASSERTION), .val (.int (1 : Int32))] [(.int (1 : Int32)), (.ref a_CERTIFICATE_OR_ASSERTION)])
      obtain ⟨T11, L11, v11, X11, ⟨rfl, rfl, q11⟩, st11⟩ := own_callV X10 hx hZ (y := (⟨"com/example/willebroek/willebroek/security/TokenKinds", "take", "(Z)Z"⟩ : MethodName)) (z := (⟨"com/example/willebroek/willebroek/security/TokenKinds", "take", "(Z)Z"⟩ : MethodName)) hown (hw _ (List.mem_of_getElem? (i := 4) rfl)) (hw _ (List.mem_of_getElem? (i := 5) rfl)) (hw _ (List.mem_of_getElem? (i := 7) rfl)) (hw _ (List.mem_of_getElem? (i := 7) rfl)) (hw _ (List.mem_of_getElem? (i := 6) rfl)) (hw _ (List.mem_of_getElem? (i := 8) rfl)) (hw _ (List.mem_of_getElem? (i := 2) rfl)) (notFace_of_selects (args := #[]) (mvT hZ (hw _ (List.mem_of_getElem? (i := 7) rfl)))) (by decide) (c_take l Z a0 hw a_CERTIFICATE_OR_ASSERTION (1 : Int32) (1 : Int32) (1 : Int32) h0  F_CERTIFICATE_OR_ASSERTION_assertion F_CERTIFICATE_OR_ASSERTION_certificate) e10 E_CERTIFICATE_OR_ASSERTION (argsL := [(.int (1 : Int32))]) (rest := []) (g := (mkF m 82 #[.val (.int i0), .val (.int i1), .val (.int (1 : Int32)), .val (.int (1 : Int32)), .val (.ref a_CERTIFICATE_OR_ASSERTION), .val (.int (1 : Int32))] [(.int (1 : Int32)), (.ref a_CERTIFICATE_OR_ASSERTION)])) rfl (by rw [hml]; rfl) (ps := [.boolean]) (r := (some .boolean)) (by decide +kernel) rfl rfl (W := 0) (by show 2 * 0 + _ ≤ _; exact Nat.le_of_eq rfl) (hb hby at_82) (by decide) (by decide) (by decide) (by decide)
      have N11 := Fr.app N0 (Fr.nil n0)
      refine own_go st11 ?_
      show own_G p e below _ T11 (mkF m 85 #[.val (.int i0), .val (.int i1), .val (.int (1 : Int32)), .val (.int (1 : Int32)), .val (.ref a_CERTIFICATE_OR_ASSERTION), .val (.int (1 : Int32))] [(.int (own_take a_CERTIFICATE_OR_ASSERTION (1 : Int32) (1 : Int32) (1 : Int32)))])
      have r11 : (own_take a_CERTIFICATE_OR_ASSERTION (1 : Int32) (1 : Int32) (1 : Int32)) = (1 : Int32) := by unfold own_take; rw [if_neg (show ¬ ((1 : Int32) = (0 : Int32)) by decide)]; rfl
      rw [r11]
      show own_G p e below _ T11 (mkF m 85 #[.val (.int i0), .val (.int i1), .val (.int (1 : Int32)), .val (.int (1 : Int32)), .val (.ref a_CERTIFICATE_OR_ASSERTION), .val (.int (1 : Int32))] [(.int (1 : Int32))])
      refine own_go (fun t k => XS.iload X11.here hx rfl (hb hby at_85) rfl k) ?_
      show own_G p e below _ T11 (mkF m 87 #[.val (.int i0), .val (.int i1), .val (.int (1 : Int32)), .val (.int (1 : Int32)), .val (.ref a_CERTIFICATE_OR_ASSERTION), .val (.int (1 : Int32))] [(.int (1 : Int32)), (.int (1 : Int32))])
      refine own_go (fun t k => XS.icmpNo X11.here hx rfl (hb hby at_87) rfl (by decide) k) ?_
      show own_G p e below _ T11 (mkF m 90 #[.val (.int i0), .val (.int i1), .val (.int (1 : Int32)), .val (.int (1 : Int32)), .val (.ref a_CERTIFICATE_OR_ASSERTION), .val (.int (1 : Int32))] [])
      refine own_go (fun t k => XS.iconst X11.here hx rfl (hb hby at_90) k) ?_
      show own_G p e below _ T11 (mkF m 91 #[.val (.int i0), .val (.int i1), .val (.int (1 : Int32)), .val (.int (1 : Int32)), .val (.ref a_CERTIFICATE_OR_ASSERTION), .val (.int (1 : Int32))] [(.int (1 : Int32))])
      refine own_go (fun t k => XS.goto X11.here hx rfl (pc0 := 91) (pc' := 95) rfl (hb hby at_91) (by decide) (by decide) k) ?_
      show own_G p e below _ T11 (mkF m 95 #[.val (.int i0), .val (.int i1), .val (.int (1 : Int32)), .val (.int (1 : Int32)), .val (.ref a_CERTIFICATE_OR_ASSERTION), .val (.int (1 : Int32))] [(.int (1 : Int32))])
      exact own_retN X11 hx hlk hret (by simp) (hb hby at_95) (by decide) (by decide) ⟨rfl, N11⟩
  · rw [hk1]
    show own_G p e below _ T0 (mkF m 6 #[.val (.int i0), .val (.int i1), .unset, .unset, .unset, .unset] [(.int (2 : Int32))])
    refine own_go (fun t k => XS.istoreN X0.here hx rfl (hb hby at_6) rfl (l' := #[.val (.int i0), .val (.int i1), .val (.int (2 : Int32)), .unset, .unset, .unset]) rfl k) ?_
    show own_G p e below _ T0 (mkF m 7 #[.val (.int i0), .val (.int i1), .val (.int (2 : Int32)), .unset, .unset, .unset] [])
    refine own_go (fun t k => XS.iloadN X0.here hx rfl (hb hby at_7) rfl k) ?_
    show own_G p e below _ T0 (mkF m 8 #[.val (.int i0), .val (.int i1), .val (.int (2 : Int32)), .unset, .unset, .unset] [(.int i1)])
    refine own_go (fun t k => XS.iconst X0.here hx rfl (hb hby at_8) k) ?_
    show own_G p e below _ T0 (mkF m 9 #[.val (.int i0), .val (.int i1), .val (.int (2 : Int32)), .unset, .unset, .unset] [(.int (1 : Int32)), (.int i1)])
    refine own_go (fun t k => XS.iand X0.here hx rfl (hb hby at_9) rfl k) ?_
    show own_G p e below _ T0 (mkF m 10 #[.val (.int i0), .val (.int i1), .val (.int (2 : Int32)), .unset, .unset, .unset] [(.int (i1 &&& (1 : Int32)))])
    rcases hf with hk12 | hk12
    · rw [hk12]
      show own_G p e below _ T0 (mkF m 10 #[.val (.int i0), .val (.int i1), .val (.int (2 : Int32)), .unset, .unset, .unset] [(.int (0 : Int32))])
      refine own_go (fun t k => XS.ifYes X0.here hx rfl (pc0 := 10) (pc' := 17) rfl (hb hby at_10) rfl (by decide) (by decide) (by decide) k) ?_
      show own_G p e below _ T0 (mkF m 17 #[.val (.int i0), .val (.int i1), .val (.int (2 : Int32)), .unset, .unset, .unset] [])
      refine own_go (fun t k => XS.iconst X0.here hx rfl (hb hby at_17) k) ?_
      show own_G p e below _ T0 (mkF m 18 #[.val (.int i0), .val (.int i1), .val (.int (2 : Int32)), .unset, .unset, .unset] [(.int (0 : Int32))])
      refine own_go (fun t k => XS.istoreN X0.here hx rfl (hb hby at_18) rfl (l' := #[.val (.int i0), .val (.int i1), .val (.int (2 : Int32)), .val (.int (0 : Int32)), .unset, .unset]) rfl k) ?_
      show own_G p e below _ T0 (mkF m 19 #[.val (.int i0), .val (.int i1), .val (.int (2 : Int32)), .val (.int (0 : Int32)), .unset, .unset] [])
      refine own_go (fun t k => XS.iloadN X0.here hx rfl (hb hby at_19) rfl k) ?_
      show own_G p e below _ T0 (mkF m 20 #[.val (.int i0), .val (.int i1), .val (.int (2 : Int32)), .val (.int (0 : Int32)), .unset, .unset] [(.int (2 : Int32))])
      refine own_go (fun t k => XS.ifYes X0.here hx rfl (pc0 := 20) (pc' := 31) rfl (hb hby at_20) rfl (by decide) (by decide) (by decide) k) ?_
      show own_G p e below _ T0 (mkF m 31 #[.val (.int i0), .val (.int i1), .val (.int (2 : Int32)), .val (.int (0 : Int32)), .unset, .unset] [])
      refine own_go (fun t k => XS.iloadN X0.here hx rfl (hb hby at_31) rfl k) ?_
      show own_G p e below _ T0 (mkF m 32 #[.val (.int i0), .val (.int i1), .val (.int (2 : Int32)), .val (.int (0 : Int32)), .unset, .unset] [(.int (2 : Int32))])
      refine own_go (fun t k => XS.iconst X0.here hx rfl (hb hby at_32) k) ?_
      show own_G p e below _ T0 (mkF m 33 #[.val (.int i0), .val (.int i1), .val (.int (2 : Int32)), .val (.int (0 : Int32)), .unset, .unset] [(.int (1 : Int32)), (.int (2 : Int32))])
      refine own_go (fun t k => XS.icmpYes X0.here hx rfl (pc0 := 33) (pc' := 44) rfl (hb hby at_33) rfl (by decide) (by decide) (by decide) k) ?_
      show own_G p e below _ T0 (mkF m 44 #[.val (.int i0), .val (.int i1), .val (.int (2 : Int32)), .val (.int (0 : Int32)), .unset, .unset] [])
      obtain ⟨T13, X13, e13, st13⟩ := getS X0 hx hZ hown (host := "") (hw _ (List.mem_of_getElem? (i := 11) rfl)) Via.refl e0 S_CERTIFIED_ASSERTION (g := (mkF m 44 #[.val (.int i0), .val (.int i1), .val (.int (2 : Int32)), .val (.int (0 : Int32)), .unset, .unset] [])) rfl (hb hby at_44)
      refine own_go st13 ?_
      show own_G p e below _ T13 (mkF m 47 #[.val (.int i0), .val (.int i1), .val (.int (2 : Int32)), .val (.int (0 : Int32)), .unset, .unset] [(.ref a_CERTIFIED_ASSERTION)])
      refine own_go (fun t k => XS.astore X13.here hx rfl (hb hby at_47) rfl rfl (l' := #[.val (.int i0), .val (.int i1), .val (.int (2 : Int32)), .val (.int (0 : Int32)), .val (.ref a_CERTIFIED_ASSERTION), .unset]) rfl k) ?_
      show own_G p e below _ T13 (mkF m 49 #[.val (.int i0), .val (.int i1), .val (.int (2 : Int32)), .val (.int (0 : Int32)), .val (.ref a_CERTIFIED_ASSERTION), .unset] [])
      refine own_go (fun t k => XS.iloadN X13.here hx rfl (hb hby at_49) rfl k) ?_
      show own_G p e below _ T13 (mkF m 50 #[.val (.int i0), .val (.int i1), .val (.int (2 : Int32)), .val (.int (0 : Int32)), .val (.ref a_CERTIFIED_ASSERTION), .unset] [(.int (0 : Int32))])
      refine own_go (fun t k => XS.ifYes X13.here hx rfl (pc0 := 50) (pc' := 67) rfl (hb hby at_50) rfl (by decide) (by decide) (by decide) k) ?_
      show own_G p e below _ T13 (mkF m 67 #[.val (.int i0), .val (.int i1), .val (.int (2 : Int32)), .val (.int (0 : Int32)), .val (.ref a_CERTIFIED_ASSERTION), .unset] [])
      refine own_go (fun t k => XS.iloadN X13.here hx rfl (hb hby at_67) rfl k) ?_
      show own_G p e below _ T13 (mkF m 68 #[.val (.int i0), .val (.int i1), .val (.int (2 : Int32)), .val (.int (0 : Int32)), .val (.ref a_CERTIFIED_ASSERTION), .unset] [(.int (2 : Int32))])
      refine own_go (fun t k => XS.iconst X13.here hx rfl (hb hby at_68) k) ?_
      show own_G p e below _ T13 (mkF m 69 #[.val (.int i0), .val (.int i1), .val (.int (2 : Int32)), .val (.int (0 : Int32)), .val (.ref a_CERTIFIED_ASSERTION), .unset] [(.int (2 : Int32)), (.int (2 : Int32))])
      refine own_go (fun t k => XS.icmpYes X13.here hx rfl (pc0 := 69) (pc' := 76) rfl (hb hby at_69) rfl (by decide) (by decide) (by decide) k) ?_
      show own_G p e below _ T13 (mkF m 76 #[.val (.int i0), .val (.int i1), .val (.int (2 : Int32)), .val (.int (0 : Int32)), .val (.ref a_CERTIFIED_ASSERTION), .unset] [])
      refine own_go (fun t k => XS.iconst X13.here hx rfl (hb hby at_76) k) ?_
      show own_G p e below _ T13 (mkF m 77 #[.val (.int i0), .val (.int i1), .val (.int (2 : Int32)), .val (.int (0 : Int32)), .val (.ref a_CERTIFIED_ASSERTION), .unset] [(.int (0 : Int32))])
      refine own_go (fun t k => XS.istore X13.here hx rfl (hb hby at_77) rfl (l' := #[.val (.int i0), .val (.int i1), .val (.int (2 : Int32)), .val (.int (0 : Int32)), .val (.ref a_CERTIFIED_ASSERTION), .val (.int (0 : Int32))]) rfl k) ?_
      show own_G p e below _ T13 (mkF m 79 #[.val (.int i0), .val (.int i1), .val (.int (2 : Int32)), .val (.int (0 : Int32)), .val (.ref a_CERTIFIED_ASSERTION), .val (.int (0 : Int32))] [])
      refine own_go (fun t k => XS.aload X13.here hx rfl (hb hby at_79) rfl rfl k) ?_
      show own_G p e below _ T13 (mkF m 81 #[.val (.int i0), .val (.int i1), .val (.int (2 : Int32)), .val (.int (0 : Int32)), .val (.ref a_CERTIFIED_ASSERTION), .val (.int (0 : Int32))] [(.ref a_CERTIFIED_ASSERTION)])
      refine own_go (fun t k => XS.iloadN X13.here hx rfl (hb hby at_81) rfl k) ?_
      show own_G p e below _ T13 (mkF m 82 #[.val (.int i0), .val (.int i1), .val (.int (2 : Int32)), .val (.int (0 : Int32)), .val (.ref a_CERTIFIED_ASSERTION), .val (.int (0 : Int32))] [(.int (0 : Int32)), (.ref a_CERTIFIED_ASSERTION)])
      obtain ⟨T14, L14, v14, X14, ⟨rfl, rfl, q14⟩, st14⟩ := own_callV X13 hx hZ (y := (⟨"com/example/willebroek/willebroek/security/TokenKinds", "take", "(Z)Z"⟩ : MethodName)) (z := (⟨"com/example/willebroek/willebroek/security/TokenKinds", "take", "(Z)Z"⟩ : MethodName)) hown (hw _ (List.mem_of_getElem? (i := 4) rfl)) (hw _ (List.mem_of_getElem? (i := 5) rfl)) (hw _ (List.mem_of_getElem? (i := 7) rfl)) (hw _ (List.mem_of_getElem? (i := 7) rfl)) (hw _ (List.mem_of_getElem? (i := 6) rfl)) (hw _ (List.mem_of_getElem? (i := 8) rfl)) (hw _ (List.mem_of_getElem? (i := 2) rfl)) (notFace_of_selects (args := #[]) (mvT hZ (hw _ (List.mem_of_getElem? (i := 7) rfl)))) (by decide) (c_take l Z a0 hw a_CERTIFIED_ASSERTION (0 : Int32) (1 : Int32) (0 : Int32) h0  F_CERTIFIED_ASSERTION_assertion F_CERTIFIED_ASSERTION_certificate) e13 E_CERTIFIED_ASSERTION (argsL := [(.int (0 : Int32))]) (rest := []) (g := (mkF m 82 #[.val (.int i0), .val (.int i1), .val (.int (2 : Int32)), .val (.int (0 : Int32)), .val (.ref a_CERTIFIED_ASSERTION), .val (.int (0 : Int32))] [(.int (0 : Int32)), (.ref a_CERTIFIED_ASSERTION)])) rfl (by rw [hml]; rfl) (ps := [.boolean]) (r := (some .boolean)) (by decide +kernel) rfl rfl (W := 0) (by show 2 * 0 + _ ≤ _; exact Nat.le_of_eq rfl) (hb hby at_82) (by decide) (by decide) (by decide) (by decide)
      have N14 := Fr.app N0 (Fr.nil n0)
      refine own_go st14 ?_
      show own_G p e below _ T14 (mkF m 85 #[.val (.int i0), .val (.int i1), .val (.int (2 : Int32)), .val (.int (0 : Int32)), .val (.ref a_CERTIFIED_ASSERTION), .val (.int (0 : Int32))] [(.int (own_take a_CERTIFIED_ASSERTION (0 : Int32) (1 : Int32) (0 : Int32)))])
      have r14 : (own_take a_CERTIFIED_ASSERTION (0 : Int32) (1 : Int32) (0 : Int32)) = (0 : Int32) := by unfold own_take; rw [if_pos (show ((0 : Int32) = (0 : Int32)) by decide)]; rfl
      rw [r14]
      show own_G p e below _ T14 (mkF m 85 #[.val (.int i0), .val (.int i1), .val (.int (2 : Int32)), .val (.int (0 : Int32)), .val (.ref a_CERTIFIED_ASSERTION), .val (.int (0 : Int32))] [(.int (0 : Int32))])
      refine own_go (fun t k => XS.iload X14.here hx rfl (hb hby at_85) rfl k) ?_
      show own_G p e below _ T14 (mkF m 87 #[.val (.int i0), .val (.int i1), .val (.int (2 : Int32)), .val (.int (0 : Int32)), .val (.ref a_CERTIFIED_ASSERTION), .val (.int (0 : Int32))] [(.int (0 : Int32)), (.int (0 : Int32))])
      refine own_go (fun t k => XS.icmpNo X14.here hx rfl (hb hby at_87) rfl (by decide) k) ?_
      show own_G p e below _ T14 (mkF m 90 #[.val (.int i0), .val (.int i1), .val (.int (2 : Int32)), .val (.int (0 : Int32)), .val (.ref a_CERTIFIED_ASSERTION), .val (.int (0 : Int32))] [])
      refine own_go (fun t k => XS.iconst X14.here hx rfl (hb hby at_90) k) ?_
      show own_G p e below _ T14 (mkF m 91 #[.val (.int i0), .val (.int i1), .val (.int (2 : Int32)), .val (.int (0 : Int32)), .val (.ref a_CERTIFIED_ASSERTION), .val (.int (0 : Int32))] [(.int (1 : Int32))])
      refine own_go (fun t k => XS.goto X14.here hx rfl (pc0 := 91) (pc' := 95) rfl (hb hby at_91) (by decide) (by decide) k) ?_
      show own_G p e below _ T14 (mkF m 95 #[.val (.int i0), .val (.int i1), .val (.int (2 : Int32)), .val (.int (0 : Int32)), .val (.ref a_CERTIFIED_ASSERTION), .val (.int (0 : Int32))] [(.int (1 : Int32))])
      exact own_retN X14 hx hlk hret (by simp) (hb hby at_95) (by decide) (by decide) ⟨rfl, N14⟩
    · rw [hk12]
      show own_G p e below _ T0 (mkF m 10 #[.val (.int i0), .val (.int i1), .val (.int (2 : Int32)), .unset, .unset, .unset] [(.int (1 : Int32))])
      refine own_go (fun t k => XS.ifNo X0.here hx rfl (hb hby at_10) rfl (by decide) k) ?_
      show own_G p e below _ T0 (mkF m 13 #[.val (.int i0), .val (.int i1), .val (.int (2 : Int32)), .unset, .unset, .unset] [])
      refine own_go (fun t k => XS.iconst X0.here hx rfl (hb hby at_13) k) ?_
      show own_G p e below _ T0 (mkF m 14 #[.val (.int i0), .val (.int i1), .val (.int (2 : Int32)), .unset, .unset, .unset] [(.int (1 : Int32))])
      refine own_go (fun t k => XS.goto X0.here hx rfl (pc0 := 14) (pc' := 18) rfl (hb hby at_14) (by decide) (by decide) k) ?_
      show own_G p e below _ T0 (mkF m 18 #[.val (.int i0), .val (.int i1), .val (.int (2 : Int32)), .unset, .unset, .unset] [(.int (1 : Int32))])
      refine own_go (fun t k => XS.istoreN X0.here hx rfl (hb hby at_18) rfl (l' := #[.val (.int i0), .val (.int i1), .val (.int (2 : Int32)), .val (.int (1 : Int32)), .unset, .unset]) rfl k) ?_
      show own_G p e below _ T0 (mkF m 19 #[.val (.int i0), .val (.int i1), .val (.int (2 : Int32)), .val (.int (1 : Int32)), .unset, .unset] [])
      refine own_go (fun t k => XS.iloadN X0.here hx rfl (hb hby at_19) rfl k) ?_
      show own_G p e below _ T0 (mkF m 20 #[.val (.int i0), .val (.int i1), .val (.int (2 : Int32)), .val (.int (1 : Int32)), .unset, .unset] [(.int (2 : Int32))])
      refine own_go (fun t k => XS.ifYes X0.here hx rfl (pc0 := 20) (pc' := 31) rfl (hb hby at_20) rfl (by decide) (by decide) (by decide) k) ?_
      show own_G p e below _ T0 (mkF m 31 #[.val (.int i0), .val (.int i1), .val (.int (2 : Int32)), .val (.int (1 : Int32)), .unset, .unset] [])
      refine own_go (fun t k => XS.iloadN X0.here hx rfl (hb hby at_31) rfl k) ?_
      show own_G p e below _ T0 (mkF m 32 #[.val (.int i0), .val (.int i1), .val (.int (2 : Int32)), .val (.int (1 : Int32)), .unset, .unset] [(.int (2 : Int32))])
      refine own_go (fun t k => XS.iconst X0.here hx rfl (hb hby at_32) k) ?_
      show own_G p e below _ T0 (mkF m 33 #[.val (.int i0), .val (.int i1), .val (.int (2 : Int32)), .val (.int (1 : Int32)), .unset, .unset] [(.int (1 : Int32)), (.int (2 : Int32))])
      refine own_go (fun t k => XS.icmpYes X0.here hx rfl (pc0 := 33) (pc' := 44) rfl (hb hby at_33) rfl (by decide) (by decide) (by decide) k) ?_
      show own_G p e below _ T0 (mkF m 44 #[.val (.int i0), .val (.int i1), .val (.int (2 : Int32)), .val (.int (1 : Int32)), .unset, .unset] [])
      obtain ⟨T15, X15, e15, st15⟩ := getS X0 hx hZ hown (host := "") (hw _ (List.mem_of_getElem? (i := 11) rfl)) Via.refl e0 S_CERTIFIED_ASSERTION (g := (mkF m 44 #[.val (.int i0), .val (.int i1), .val (.int (2 : Int32)), .val (.int (1 : Int32)), .unset, .unset] [])) rfl (hb hby at_44)
      refine own_go st15 ?_
      show own_G p e below _ T15 (mkF m 47 #[.val (.int i0), .val (.int i1), .val (.int (2 : Int32)), .val (.int (1 : Int32)), .unset, .unset] [(.ref a_CERTIFIED_ASSERTION)])
      refine own_go (fun t k => XS.astore X15.here hx rfl (hb hby at_47) rfl rfl (l' := #[.val (.int i0), .val (.int i1), .val (.int (2 : Int32)), .val (.int (1 : Int32)), .val (.ref a_CERTIFIED_ASSERTION), .unset]) rfl k) ?_
      show own_G p e below _ T15 (mkF m 49 #[.val (.int i0), .val (.int i1), .val (.int (2 : Int32)), .val (.int (1 : Int32)), .val (.ref a_CERTIFIED_ASSERTION), .unset] [])
      refine own_go (fun t k => XS.iloadN X15.here hx rfl (hb hby at_49) rfl k) ?_
      show own_G p e below _ T15 (mkF m 50 #[.val (.int i0), .val (.int i1), .val (.int (2 : Int32)), .val (.int (1 : Int32)), .val (.ref a_CERTIFIED_ASSERTION), .unset] [(.int (1 : Int32))])
      refine own_go (fun t k => XS.ifNo X15.here hx rfl (hb hby at_50) rfl (by decide) k) ?_
      show own_G p e below _ T15 (mkF m 53 #[.val (.int i0), .val (.int i1), .val (.int (2 : Int32)), .val (.int (1 : Int32)), .val (.ref a_CERTIFIED_ASSERTION), .unset] [])
      refine own_go (fun t k => XS.iloadN X15.here hx rfl (hb hby at_53) rfl k) ?_
      show own_G p e below _ T15 (mkF m 54 #[.val (.int i0), .val (.int i1), .val (.int (2 : Int32)), .val (.int (1 : Int32)), .val (.ref a_CERTIFIED_ASSERTION), .unset] [(.int (2 : Int32))])
      refine own_go (fun t k => XS.ifNo X15.here hx rfl (hb hby at_54) rfl (by decide) k) ?_
      show own_G p e below _ T15 (mkF m 57 #[.val (.int i0), .val (.int i1), .val (.int (2 : Int32)), .val (.int (1 : Int32)), .val (.ref a_CERTIFIED_ASSERTION), .unset] [])
      refine own_go (fun t k => XS.iconst X15.here hx rfl (hb hby at_57) k) ?_
      show own_G p e below _ T15 (mkF m 58 #[.val (.int i0), .val (.int i1), .val (.int (2 : Int32)), .val (.int (1 : Int32)), .val (.ref a_CERTIFIED_ASSERTION), .unset] [(.int (1 : Int32))])
      refine own_go (fun t k => XS.goto X15.here hx rfl (pc0 := 58) (pc' := 62) rfl (hb hby at_58) (by decide) (by decide) k) ?_
      show own_G p e below _ T15 (mkF m 62 #[.val (.int i0), .val (.int i1), .val (.int (2 : Int32)), .val (.int (1 : Int32)), .val (.ref a_CERTIFIED_ASSERTION), .unset] [(.int (1 : Int32))])
      refine own_go (fun t k => XS.istore X15.here hx rfl (hb hby at_62) rfl (l' := #[.val (.int i0), .val (.int i1), .val (.int (2 : Int32)), .val (.int (1 : Int32)), .val (.ref a_CERTIFIED_ASSERTION), .val (.int (1 : Int32))]) rfl k) ?_
      show own_G p e below _ T15 (mkF m 64 #[.val (.int i0), .val (.int i1), .val (.int (2 : Int32)), .val (.int (1 : Int32)), .val (.ref a_CERTIFIED_ASSERTION), .val (.int (1 : Int32))] [])
      refine own_go (fun t k => XS.goto X15.here hx rfl (pc0 := 64) (pc' := 79) rfl (hb hby at_64) (by decide) (by decide) k) ?_
      show own_G p e below _ T15 (mkF m 79 #[.val (.int i0), .val (.int i1), .val (.int (2 : Int32)), .val (.int (1 : Int32)), .val (.ref a_CERTIFIED_ASSERTION), .val (.int (1 : Int32))] [])
      refine own_go (fun t k => XS.aload X15.here hx rfl (hb hby at_79) rfl rfl k) ?_
      show own_G p e below _ T15 (mkF m 81 #[.val (.int i0), .val (.int i1), .val (.int (2 : Int32)), .val (.int (1 : Int32)), .val (.ref a_CERTIFIED_ASSERTION), .val (.int (1 : Int32))] [(.ref a_CERTIFIED_ASSERTION)])
      refine own_go (fun t k => XS.iloadN X15.here hx rfl (hb hby at_81) rfl k) ?_
      show own_G p e below _ T15 (mkF m 82 #[.val (.int i0), .val (.int i1), .val (.int (2 : Int32)), .val (.int (1 : Int32)), .val (.ref a_CERTIFIED_ASSERTION), .val (.int (1 : Int32))] [(.int (1 : Int32)), (.ref a_CERTIFIED_ASSERTION)])
      obtain ⟨T16, L16, v16, X16, ⟨rfl, rfl, q16⟩, st16⟩ := own_callV X15 hx hZ (y := (⟨"com/example/willebroek/willebroek/security/TokenKinds", "take", "(Z)Z"⟩ : MethodName)) (z := (⟨"com/example/willebroek/willebroek/security/TokenKinds", "take", "(Z)Z"⟩ : MethodName)) hown (hw _ (List.mem_of_getElem? (i := 4) rfl)) (hw _ (List.mem_of_getElem? (i := 5) rfl)) (hw _ (List.mem_of_getElem? (i := 7) rfl)) (hw _ (List.mem_of_getElem? (i := 7) rfl)) (hw _ (List.mem_of_getElem? (i := 6) rfl)) (hw _ (List.mem_of_getElem? (i := 8) rfl)) (hw _ (List.mem_of_getElem? (i := 2) rfl)) (notFace_of_selects (args := #[]) (mvT hZ (hw _ (List.mem_of_getElem? (i := 7) rfl)))) (by decide) (c_take l Z a0 hw a_CERTIFIED_ASSERTION (1 : Int32) (1 : Int32) (0 : Int32) h0  F_CERTIFIED_ASSERTION_assertion F_CERTIFIED_ASSERTION_certificate) e15 E_CERTIFIED_ASSERTION (argsL := [(.int (1 : Int32))]) (rest := []) (g := (mkF m 82 #[.val (.int i0), .val (.int i1), .val (.int (2 : Int32)), .val (.int (1 : Int32)), .val (.ref a_CERTIFIED_ASSERTION), .val (.int (1 : Int32))] [(.int (1 : Int32)), (.ref a_CERTIFIED_ASSERTION)])) rfl (by rw [hml]; rfl) (ps := [.boolean]) (r := (some .boolean)) (by decide +kernel) rfl rfl (W := 0) (by show 2 * 0 + _ ≤ _; exact Nat.le_of_eq rfl) (hb hby at_82) (by decide) (by decide) (by decide) (by decide)
      have N16 := Fr.app N0 (Fr.nil n0)
      refine own_go st16 ?_
      show own_G p e below _ T16 (mkF m 85 #[.val (.int i0), .val (.int i1), .val (.int (2 : Int32)), .val (.int (1 : Int32)), .val (.ref a_CERTIFIED_ASSERTION), .val (.int (1 : Int32))] [(.int (own_take a_CERTIFIED_ASSERTION (1 : Int32) (1 : Int32) (0 : Int32)))])
      have r16 : (own_take a_CERTIFIED_ASSERTION (1 : Int32) (1 : Int32) (0 : Int32)) = (1 : Int32) := by unfold own_take; rw [if_neg (show ¬ ((1 : Int32) = (0 : Int32)) by decide)]; rfl
      rw [r16]
      show own_G p e below _ T16 (mkF m 85 #[.val (.int i0), .val (.int i1), .val (.int (2 : Int32)), .val (.int (1 : Int32)), .val (.ref a_CERTIFIED_ASSERTION), .val (.int (1 : Int32))] [(.int (1 : Int32))])
      refine own_go (fun t k => XS.iload X16.here hx rfl (hb hby at_85) rfl k) ?_
      show own_G p e below _ T16 (mkF m 87 #[.val (.int i0), .val (.int i1), .val (.int (2 : Int32)), .val (.int (1 : Int32)), .val (.ref a_CERTIFIED_ASSERTION), .val (.int (1 : Int32))] [(.int (1 : Int32)), (.int (1 : Int32))])
      refine own_go (fun t k => XS.icmpNo X16.here hx rfl (hb hby at_87) rfl (by decide) k) ?_
      show own_G p e below _ T16 (mkF m 90 #[.val (.int i0), .val (.int i1), .val (.int (2 : Int32)), .val (.int (1 : Int32)), .val (.ref a_CERTIFIED_ASSERTION), .val (.int (1 : Int32))] [])
      refine own_go (fun t k => XS.iconst X16.here hx rfl (hb hby at_90) k) ?_
      show own_G p e below _ T16 (mkF m 91 #[.val (.int i0), .val (.int i1), .val (.int (2 : Int32)), .val (.int (1 : Int32)), .val (.ref a_CERTIFIED_ASSERTION), .val (.int (1 : Int32))] [(.int (1 : Int32))])
      refine own_go (fun t k => XS.goto X16.here hx rfl (pc0 := 91) (pc' := 95) rfl (hb hby at_91) (by decide) (by decide) k) ?_
      show own_G p e below _ T16 (mkF m 95 #[.val (.int i0), .val (.int i1), .val (.int (2 : Int32)), .val (.int (1 : Int32)), .val (.ref a_CERTIFIED_ASSERTION), .val (.int (1 : Int32))] [(.int (1 : Int32))])
      exact own_retN X16 hx hlk hret (by simp) (hb hby at_95) (by decide) (by decide) ⟨rfl, N16⟩
set_option maxRecDepth 65536 in
set_option maxHeartbeats 40000000 in
theorem comes_1 {Post : Tables → Env → Array Value → State → Outcome → State → Prop} (hpost : ∀ tb e args s v u, (limb_1_1.after args s (.returned v) u = true ∧ limb_1_2.after args s (.returned v) u = true ∧ True) → FrameEnd s (.returned v) u (Jvm.fieldLocs frame_1_writes args s ++ Jvm.arrayLocs frame_1_arrays args s ++ Jvm.staticLocs frame_1_statics s) 0 0 → Post tb e args s (.returned v) u) :
    ArmFor flags0 classFile x code maxLocals ret World_1 tables_1 room_1 Calls_1 rest_1 Pre_1 Post := by
  intro l hfl _ _ p e ha hc hk s m args below hf hA hF happ hP
  obtain ⟨hcalls, hrest, hpre⟩ := hP
  obtain ⟨-, -, -, hnamed, -, -, -, hat⟩ := (Spec.applies_iff hf).mp happ
  obtain ⟨hg, hn⟩ := and_e (Cond.before_iff.mp (show (Jvm.Cond.and given_1 narrow_1).before args s = true from hpre))
  obtain ⟨h1, hg⟩ := and_e hg
  obtain ⟨w0, w1, rfl⟩ : ∃ w0 w1 : Value, args = #[w0, w1] := by
    have hs : args.size = 2 := by simpa [Cond.value, given_1] using h1
    obtain ⟨L⟩ := args
    match L, hs with
    | [w0, w1], _ => exact ⟨w0, w1, rfl⟩
  obtain ⟨hi0, hg⟩ := and_e hg
  obtain ⟨i0, ei0⟩ := is_v hi0
  obtain rfl : w0 = (.int i0) := Option.some.inj ei0
  obtain ⟨i1, ei1⟩ := is_v hg
  obtain rfl : w1 = (.int i1) := Option.some.inj ei1
  have hw := fun d (hd : d ∈ tables_1) => atoms_spec (ws := Jvm.Cond.code x code maxLocals ret :: tables_1) hat d (List.mem_cons_of_mem _ hd)
  obtain ⟨n0, hn⟩ := and_e hn
  obtain ⟨a_CERTIFICATE, v_CERTIFICATE⟩ := exa_v n0
  have S_CERTIFICATE := Sta.start v_CERTIFICATE (Or.inr ⟨(hw _ (List.mem_of_getElem? (i := 2) rfl)), (hw _ (List.mem_of_getElem? (i := 3) rfl))⟩)
  have E_CERTIFICATE := Exa.start v_CERTIFICATE n0
  obtain ⟨n1, hn⟩ := and_e hn
  have F_CERTIFICATE_assertion := own_fld v_CERTIFICATE n1
  obtain ⟨n2, hn⟩ := and_e hn
  obtain ⟨a_CERTIFIED_ASSERTION, v_CERTIFIED_ASSERTION⟩ := exa_v n2
  have S_CERTIFIED_ASSERTION := Sta.start v_CERTIFIED_ASSERTION (Or.inr ⟨(hw _ (List.mem_of_getElem? (i := 2) rfl)), (hw _ (List.mem_of_getElem? (i := 12) rfl))⟩)
  have E_CERTIFIED_ASSERTION := Exa.start v_CERTIFIED_ASSERTION n2
  obtain ⟨n3, hn⟩ := and_e hn
  have F_CERTIFIED_ASSERTION_assertion := own_fld v_CERTIFIED_ASSERTION n3
  obtain ⟨n4, hn⟩ := and_e hn
  have F_CERTIFIED_ASSERTION_certificate := own_fld v_CERTIFIED_ASSERTION n4
  obtain ⟨n5, hn⟩ := and_e hn
  obtain ⟨a_CERTIFICATE_OR_ASSERTION, v_CERTIFICATE_OR_ASSERTION⟩ := exa_v n5
  have S_CERTIFICATE_OR_ASSERTION := Sta.start v_CERTIFICATE_OR_ASSERTION (Or.inr ⟨(hw _ (List.mem_of_getElem? (i := 2) rfl)), (hw _ (List.mem_of_getElem? (i := 16) rfl))⟩)
  have E_CERTIFICATE_OR_ASSERTION := Exa.start v_CERTIFICATE_OR_ASSERTION n5
  obtain ⟨n6, hn⟩ := and_e hn
  have F_CERTIFICATE_OR_ASSERTION_certificate := own_fld v_CERTIFICATE_OR_ASSERTION n6
  obtain ⟨n7, hn⟩ := and_e hn
  have F_CERTIFICATE_OR_ASSERTION_assertion := own_fld v_CERTIFICATE_OR_ASSERTION n7
  have F_CERTIFICATE_certificate := own_fld v_CERTIFICATE hn
  have B : own_B s s.heap a_CERTIFICATE a_CERTIFIED_ASSERTION a_CERTIFICATE_OR_ASSERTION := ⟨S_CERTIFICATE, E_CERTIFICATE, F_CERTIFICATE_assertion, S_CERTIFIED_ASSERTION, E_CERTIFIED_ASSERTION, F_CERTIFIED_ASSERTION_assertion, F_CERTIFIED_ASSERTION_certificate, S_CERTIFICATE_OR_ASSERTION, E_CERTIFICATE_OR_ASSERTION, F_CERTIFICATE_OR_ASSERTION_certificate, F_CERTIFICATE_OR_ASSERTION_assertion, F_CERTIFICATE_certificate⟩
  obtain ⟨n, o, h1, h2, h3, _, L, rfl, ⟨rfl, N⟩, hq⟩ := rm0 l s _ hw i0 i1 a_CERTIFICATE a_CERTIFIED_ASSERTION a_CERTIFICATE_OR_ASSERTION s.heap s.heap.size (Nat.le_refl _) B tables_1 p e ha hc hk s m _ below hf ((Spec.applies_iff_loose hf).mp happ).1 ⟨rfl, State.Warmed39.refl s, rfl⟩ trivial
  refine ⟨n, _, h1, h2, h3, hpost _ _ _ _ _ _ ⟨Jvm.Cond.after_iff.mpr rfl, Jvm.Cond.after_iff.mpr (eq_i res_at (Term.int_eval (1)) rfl), trivial⟩ ⟨hq.1, hq.2.1, (hq.2.2.sift fun y hy => Or.inr (N y hy)).mono (by decide) (by decide)⟩⟩
theorem main_1_1 : Claimed_1_1 := comes_1 fun _ _ _ _ _ _ h hF => ⟨h.1, hF⟩
theorem main_1_2 : Claimed_1_2 := comes_1 fun _ _ _ _ _ _ h hF => ⟨h.2.1, hF⟩
end Jvm.Pilot.@@N@@
namespace Jvm.Pilot.@@N@@
open Jvm Jvm.ClassFile Sem Op Lib Jvm.Free Jvm.Stand Jvm.Pilot.@@N@@.Jvm.D
/-! MADE BY PROGRAM (witnessworld.py) out of the Statement's table words and the real class files: 12 classes; the members and pool entries that the words name. The judged class is class 1, her method 1. -/
namespace start1
open Jvm.ClassFile
def u (s : String) : CpInfo := .utf8 (stringToUtf16 s)
/-- a pool by its gaps: so many unusable entries, then the entry; so many at the end -/
def gap : Nat → List CpInfo → List CpInfo
  | 0, r => r
  | n + 1, r => .unusable :: gap n r
def poolList (es : List (Nat × CpInfo)) (last : Nat) : List CpInfo := es.foldr (fun e r => gap e.1 (e.2 :: r)) (gap last [])
def pool (es : List (Nat × CpInfo)) (last : Nat) : Array CpInfo := ⟨poolList es last⟩
def fileOf (pool : Array CpInfo) (this : Nat) (attrs : Array Attribute := #[]) (ms : Array MethodInfo := #[]) (fl : Nat := 33) (sup : Nat := 0) (ifs : Array Nat := #[]) (fds : Array FieldInfo := #[]) : ClassFile where
  minorVersion := 0
  majorVersion := 65
  constantPool := pool
  accessFlags := fl
  thisClass := this
  superClass := sup
  interfaces := ifs
  fields := fds
  methods := ms
  attributes := attrs
def plain (name : String) (sup : Option ClassId) : Class where
  name := name
  kind := .ordinary
  loader := none
  accessFlags := 33
  super := sup
  interfaces := #[]
  cf := none
  fields := #[]
  methods := #[]
  instanceTypes := #[]
  staticTypes := #[]
  resolved := #[]
  callSites := []
  init := .initialized
  statics := none
  mirror := none

def pool0 : Array CpInfo := pool [(5, u "<init>"), (0, u "()V"), (1, .class_ 10), (1, u "java/lang/Object")] 113

def k0m0 : Method := { name := "<init>", desc := "()V", sig := { parameters := [], returnType := none }, accessFlags := 1, code := none }
/-- java/lang/Object -/
def k0 : Class := { plain "java/lang/Object" none with
  accessFlags := 33
  interfaces := #[]
  cf := some (fileOf pool0 8 #[] #[{ accessFlags := 1, nameIndex := 5, descriptorIndex := 6, attributes := #[] }] 33 0 #[] #[])
  fields := #[]
  methods := #[k0m0]
  instanceTypes := #[]
  staticTypes := #[]
  resolved := Array.replicate 124 none
  statics := none }

def pool1 : Array CpInfo := pool [(2, .class_ 4), (1, u "java/lang/Object"), (0, u "<init>"), (0, u "()V"), (0, .integer 2147483647), (0, .fieldref 9 10), (0, .class_ 11), (0, .nameAndType 12 13), (0, u "com/example/willebroek/willebroek/security/TokenKinds"), (0, u "CERTIFICATE"), (0, u "Lcom/example/willebroek/willebroek/security/TokenKinds;"), (0, .fieldref 9 15), (0, .nameAndType 16 13), (0, u "CERTIFICATE_OR_ASSERTION"), (0, .fieldref 9 18), (0, .nameAndType 19 13), (0, u "CERTIFIED_ASSERTION"), (0, .methodref 9 21), (0, .nameAndType 22 23), (0, u "take"), (0, u "(Z)Z"), (0, .class_ 25), (0, u "com/example/willebroek/willebroek/security/TokenKindsTakePinLaw"), (2, u "law"), (0, u "(II)Z")] 3

def k1m0 : Method := { name := "<init>", desc := "()V", sig := { parameters := [], returnType := none }, accessFlags := 1, code := none }
def k1c1 : Code := { maxStack := 2, maxLocals := 6, code := code, exceptionTable := #[], attributes := #[] }
def k1m1 : Method := { name := "law", desc := "(II)Z", sig := { parameters := [.int, .int], returnType := some .boolean }, accessFlags := 9, code := some k1c1 }
/-- com/example/willebroek/willebroek/security/TokenKindsTakePinLaw -/
def k1 : Class := { plain "com/example/willebroek/willebroek/security/TokenKindsTakePinLaw" (some 0) with
  accessFlags := 49
  interfaces := #[]
  cf := some (fileOf pool1 24 #[] #[{ accessFlags := 1, nameIndex := 5, descriptorIndex := 6, attributes := #[] }, { accessFlags := 9, nameIndex := 28, descriptorIndex := 29, attributes := #[] }] 49 2 #[] #[])
  fields := #[]
  methods := #[k1m0, k1m1]
  instanceTypes := #[]
  staticTypes := #[]
  resolved := Array.replicate 33 none
  statics := none }

def pool2 : Array CpInfo := pool [(1, .class_ 2), (0, u "java/lang/constant/Constable"), (0, .class_ 4), (0, u "java/lang/Object")] 6

/-- java/lang/constant/Constable -/
def k2 : Class := { plain "java/lang/constant/Constable" (some 0) with
  accessFlags := 1537
  interfaces := #[]
  cf := some (fileOf pool2 1 #[] #[] 1537 3 #[] #[])
  fields := #[]
  methods := #[]
  instanceTypes := #[]
  staticTypes := #[]
  resolved := Array.replicate 11 none
  statics := none }

def pool3 : Array CpInfo := pool [(1, .class_ 2), (0, u "java/lang/Comparable"), (0, .class_ 4), (0, u "java/lang/Object")] 7

/-- java/lang/Comparable -/
def k3 : Class := { plain "java/lang/Comparable" (some 0) with
  accessFlags := 1537
  interfaces := #[]
  cf := some (fileOf pool3 1 #[] #[] 1537 3 #[] #[])
  fields := #[]
  methods := #[]
  instanceTypes := #[]
  staticTypes := #[]
  resolved := Array.replicate 12 none
  statics := none }

def pool4 : Array CpInfo := pool [(1, .class_ 2), (0, u "java/io/Serializable"), (0, .class_ 4), (0, u "java/lang/Object")] 2

/-- java/io/Serializable -/
def k4 : Class := { plain "java/io/Serializable" (some 0) with
  accessFlags := 1537
  interfaces := #[]
  cf := some (fileOf pool4 1 #[] #[] 1537 3 #[] #[])
  fields := #[]
  methods := #[]
  instanceTypes := #[]
  staticTypes := #[]
  resolved := Array.replicate 7 none
  statics := none }

def pool5 : Array CpInfo := pool [(2, .class_ 4), (1, u "java/lang/Enum"), (0, u "name"), (0, u "Ljava/lang/String;"), (2, u "ordinal"), (0, u "I"), (1, .class_ 14), (1, u "java/lang/Object"), (4, u "hash"), (86, .class_ 108), (1, u "java/lang/Enum$EnumDesc"), (2, .class_ 112), (0, u "java/lang/constant/Constable"), (0, .class_ 114), (0, u "java/lang/Comparable"), (0, .class_ 116), (0, u "java/io/Serializable")] 87

/-- java/lang/Enum -/
def k5 : Class := { plain "java/lang/Enum" (some 0) with
  accessFlags := 1057
  interfaces := #[2, 3, 4]
  cf := some (fileOf pool5 2 #[.nestMembers #[106]] #[] 1057 12 #[111, 113, 115] #[{ accessFlags := 18, nameIndex := 5, descriptorIndex := 6, attributes := #[] }, { accessFlags := 18, nameIndex := 9, descriptorIndex := 10, attributes := #[] }, { accessFlags := 2, nameIndex := 19, descriptorIndex := 10, attributes := #[] }])
  fields := #[{ name := "name", type := (.object "java/lang/String"), accessFlags := 18, slot := 0, constantValue := 0 }, { name := "ordinal", type := .int, accessFlags := 18, slot := 1, constantValue := 0 }, { name := "hash", type := .int, accessFlags := 2, slot := 2, constantValue := 0 }]
  methods := #[]
  instanceTypes := #[(.object "java/lang/String"), .int, .int]
  staticTypes := #[]
  resolved := Array.replicate 204 none
  statics := none }

def pool6 : Array CpInfo := pool [(1, .class_ 2), (0, u "com/example/willebroek/willebroek/security/TokenKinds"), (2, u "CERTIFICATE"), (0, u "Lcom/example/willebroek/willebroek/security/TokenKinds;"), (2, u "CERTIFICATE_OR_ASSERTION"), (2, u "CERTIFIED_ASSERTION"), (2, u "$VALUES"), (0, u "[Lcom/example/willebroek/willebroek/security/TokenKinds;"), (6, .class_ 25), (1, u "java/lang/Enum"), (6, .fieldref 1 33), (0, .nameAndType 34 35), (0, u "certificate"), (0, u "Z"), (0, .fieldref 1 37), (0, .nameAndType 38 35), (0, u "assertion"), (2, u "certified"), (2, u "words"), (0, u "Ljava/lang/String;"), (23, u "take"), (0, u "(Z)Z")] 10

def k6c0 : Code := { maxStack := 1, maxLocals := 2, code := prog_32_method_4_code, exceptionTable := #[], attributes := #[] }
def k6m0 : Method := { name := "take", desc := "(Z)Z", sig := { parameters := [.boolean], returnType := some .boolean }, accessFlags := 0, code := some k6c0 }
/-- com/example/willebroek/willebroek/security/TokenKinds -/
def k6 : Class := { plain "com/example/willebroek/willebroek/security/TokenKinds" (some 5) with
  accessFlags := 16433
  interfaces := #[]
  cf := some (fileOf pool6 1 #[] #[{ accessFlags := 0, nameIndex := 69, descriptorIndex := 70, attributes := #[] }] 16433 23 #[] #[{ accessFlags := 16409, nameIndex := 5, descriptorIndex := 6, attributes := #[] }, { accessFlags := 16409, nameIndex := 9, descriptorIndex := 6, attributes := #[] }, { accessFlags := 16409, nameIndex := 12, descriptorIndex := 6, attributes := #[] }, { accessFlags := 18, nameIndex := 34, descriptorIndex := 35, attributes := #[] }, { accessFlags := 18, nameIndex := 38, descriptorIndex := 35, attributes := #[] }, { accessFlags := 18, nameIndex := 41, descriptorIndex := 35, attributes := #[] }, { accessFlags := 18, nameIndex := 44, descriptorIndex := 45, attributes := #[] }, { accessFlags := 4122, nameIndex := 15, descriptorIndex := 16, attributes := #[] }])
  fields := #[{ name := "CERTIFICATE", type := (.object "com/example/willebroek/willebroek/security/TokenKinds"), accessFlags := 16409, slot := 0, constantValue := 0 }, { name := "CERTIFICATE_OR_ASSERTION", type := (.object "com/example/willebroek/willebroek/security/TokenKinds"), accessFlags := 16409, slot := 1, constantValue := 0 }, { name := "CERTIFIED_ASSERTION", type := (.object "com/example/willebroek/willebroek/security/TokenKinds"), accessFlags := 16409, slot := 2, constantValue := 0 }, { name := "certificate", type := .boolean, accessFlags := 18, slot := 3, constantValue := 0 }, { name := "assertion", type := .boolean, accessFlags := 18, slot := 4, constantValue := 0 }, { name := "certified", type := .boolean, accessFlags := 18, slot := 5, constantValue := 0 }, { name := "words", type := (.object "java/lang/String"), accessFlags := 18, slot := 6, constantValue := 0 }, { name := "$VALUES", type := (.array (.object "com/example/willebroek/willebroek/security/TokenKinds")), accessFlags := 4122, slot := 3, constantValue := 0 }]
  methods := #[k6m0]
  instanceTypes := #[(.object "java/lang/String"), .int, .int, .boolean, .boolean, .boolean, (.object "java/lang/String")]
  staticTypes := #[(.object "com/example/willebroek/willebroek/security/TokenKinds"), (.object "com/example/willebroek/willebroek/security/TokenKinds"), (.object "com/example/willebroek/willebroek/security/TokenKinds"), (.array (.object "com/example/willebroek/willebroek/security/TokenKinds"))]
  resolved := Array.replicate 81 none
  statics := some 0 }

def pool7 : Array CpInfo := pool [(1, u "java/lang/Cloneable"), (0, .class_ 1), (0, u "java/lang/Object"), (0, .class_ 3)] 3

/-- java/lang/Cloneable -/
def k7 : Class := { plain "java/lang/Cloneable" (some 0) with
  accessFlags := 1537
  interfaces := #[]
  cf := some (fileOf pool7 2 #[] #[] 1537 4 #[] #[])
  fields := #[]
  methods := #[]
  instanceTypes := #[]
  staticTypes := #[]
  resolved := Array.replicate 8 none
  statics := none }

/-- the primitive byte -/
def k8 : Class := { plain "byte" none with kind := .primitive 'B', accessFlags := 0x411 }
/-- [B -/
def k9 : Class := { plain "[B" (some 0) with kind := .array 8 .byte, interfaces := #[7, 4], accessFlags := 1041 }

/-- the primitive int -/
def k10 : Class := { plain "int" none with kind := .primitive 'I', accessFlags := 0x411 }
/-- [I -/
def k11 : Class := { plain "[I" (some 0) with kind := .array 10 .int, interfaces := #[7, 4], accessFlags := 1041 }

def heap : Heap := #[{ cls := 6, slots := #[.ref 1, .ref 3, .ref 2, .null], vm := .statics 6 },
  { cls := 6, slots := #[.null, .int 0, .int 0, .int 1, .int 0, .int 0, .null], vm := .none },
  { cls := 6, slots := #[.null, .int 0, .int 0, .int 0, .int 1, .int 0, .null], vm := .none },
  { cls := 6, slots := #[.null, .int 0, .int 0, .int 1, .int 1, .int 0, .null], vm := .none }]
def classes : Array Class := #[k0, k1, k2, k3, k4, k5, k6, k7, k8, k9, k10, k11]
def interned : List (Array UInt16 × Addr) := []
def slotsUsed : Nat := 25
def theMethod : MethodId := ⟨1, 1⟩
def args0 : Array Value := #[.int 5, .int 1]
def aboutOver (below : List Frame) : State where
  vm := { classes := classes, interned := interned.toArray }
  heap := heap
  slotsUsed := slotsUsed
  threads := #[{ frames := .invoking theMethod args0 :: below }]
def below0 : List Frame := [.native { method := ⟨0, 0⟩, args := #[] }]
def about1 : State := aboutOver below0
def p0 : Program := .bare "" "" ""
def e0 : Env := launch0.env 0 0 0
theorem w_frames : about1.frames = Frame.invoking theMethod args0 :: below0 := rfl
set_option maxRecDepth 65536 in
theorem w_args : argsFit about1.vm theMethod args0 = true := by decide +kernel
set_option maxRecDepth 65536 in
theorem w_heap : heapFits about1 = true := by decide +kernel
set_option maxRecDepth 65536 in
theorem w_runnable : about1.curStatus? = some .runnable := by decide +kernel
set_option maxRecDepth 65536 in
theorem w_alone : about1.alone = true := by decide +kernel
set_option maxRecDepth 65536 in
theorem w_named : about1.methodNamed? x = some theMethod := by decide +kernel
set_option maxRecDepth 65536 in
theorem w_hears : about1.hears theMethod below0 = true := by decide +kernel
set_option maxRecDepth 65536 in
theorem w_ripe : about1.ripe theMethod args0 below0 = true := by decide +kernel
theorem w_running : about1.status = .running := rfl
set_option maxRecDepth 65536 in
theorem w_room : about1.hasRoom e0.platform room_1 = true :=
  launch0.hasRoom_least _ room_1 (by decide +kernel) (by decide +kernel) (by decide +kernel) (by decide +kernel) (by decide +kernel) (by decide +kernel)
theorem allAtoms_all (ts : List Jvm.Cond) (a : Array Jvm.Value) (st : Jvm.State) : (allAtoms ts).before a st = ts.all (fun c => c.before a st) := by
  induction ts with
  | nil => rfl
  | cons c t ih =>
    show (Jvm.Cond.and c (allAtoms t)).before a st = _
    rw [Jvm.Cond.before_and, ih, List.all_cons]
def words1 : List Jvm.Cond := Jvm.Cond.code x code maxLocals ret :: tables_1
/-- a 'code' word, met by the world's own term for the bytes: nothing is compared byte by byte -/
theorem code_word {y : MethodName} {bytes : ByteArray} {mx : Nat} {rt : Option FieldType} {a : Array Value} {s : State} {m : MethodId} {meth : Method} {c : Code} (h1 : s.methodNamed? y = some m) (h2 : s.vm.method? m = some meth) (h3 : meth.code = some c) (h4 : c.code = bytes)
    (h5 : (c.maxLocals == mx && c.exceptionTable.isEmpty && decide (c.maxStack ≤ mostOperands) && decide (meth.sig.returnType = rt) && !meth.locks && decide (parseMethodDescriptor y.desc = some meth.sig)) = true) : (Jvm.Cond.code y bytes mx rt).before a s = true := by
  simp only [Bool.and_eq_true, beq_iff_eq, Bool.not_eq_true', decide_eq_true_eq] at h5
  obtain ⟨⟨⟨⟨⟨g1, g2⟩, g3⟩, g4⟩, g5⟩, g6⟩ := h5
  simp [Cond.before, Cond.holds, Cond.value, h1, h2, h3, h4, g1, g2, g3, g4, g5, g6]
def isCode : Jvm.Cond → Bool
  | .code _ _ _ _ => true
  | _ => false
theorem all_split {L : List Jvm.Cond} {P : Jvm.Cond → Bool} (h1 : L.all (fun c => isCode c || P c) = true) (h2 : ∀ c ∈ L.filter isCode, P c = true) : L.all P = true := by
  refine List.all_eq_true.mpr fun c hc => ?_
  have h := List.all_eq_true.mp h1 c hc
  rcases Bool.eq_false_or_eq_true (isCode c) with hi | hi
  · exact h2 c (List.mem_filter.mpr ⟨hc, hi⟩)
  · simpa [hi] using h
set_option maxRecDepth 65536 in
theorem w_c0 : (Jvm.Cond.code x code maxLocals ret).before args0 about1 = true := code_word (m := ⟨1, 1⟩) (meth := k1m1) (c := k1c1) (by decide +kernel) rfl rfl rfl (by decide +kernel)
set_option maxRecDepth 65536 in
theorem w_c1 : (Jvm.Cond.code ({ cls := "com/example/willebroek/willebroek/security/TokenKinds", name := "take", desc := "(Z)Z" } : Jvm.MethodName) prog_32_method_4_code (2 : Nat) (Option.some Jvm.ClassFile.FieldType.boolean)).before args0 about1 = true := code_word (m := ⟨6, 0⟩) (meth := k6m0) (c := k6c0) (by decide +kernel) rfl rfl rfl (by decide +kernel)
def codes1 : List Jvm.Cond := [Jvm.Cond.code x code maxLocals ret, Jvm.Cond.code ({ cls := "com/example/willebroek/willebroek/security/TokenKinds", name := "take", desc := "(Z)Z" } : Jvm.MethodName) prog_32_method_4_code (2 : Nat) (Option.some Jvm.ClassFile.FieldType.boolean)]
set_option maxRecDepth 65536 in
theorem codes_eq : words1.filter isCode = codes1 := rfl
theorem w_codes : ∀ c ∈ words1.filter isCode, c.before args0 about1 = true := by
  rw [codes_eq]
  intro c hc
  simp only [codes1, List.mem_cons, List.not_mem_nil, or_false] at hc
  rcases hc with rfl | rfl
  · exact w_c0
  · exact w_c1
set_option maxRecDepth 65536 in
theorem w_t1 : words1.all (fun c => isCode c || c.before args0 about1) = true := by decide +kernel
theorem w_tables : (allAtoms (Jvm.Cond.code x code maxLocals ret :: tables_1)).before args0 about1 = true := by
  rw [allAtoms_all]
  show words1.all (fun c => c.before args0 about1) = true
  refine all_split ?_ w_codes
  rw [w_t1]
set_option maxRecDepth 65536 in
theorem w_case : (Jvm.Cond.and given_1 narrow_1).before args0 about1 = true := by decide +kernel
theorem w_applies : (headSpec (Jvm.Cond.code x code maxLocals ret :: tables_1) room_1).applies x e0.platform about1 = true :=
  (Spec.applies_iff w_frames).mpr ⟨w_running, w_runnable, w_alone, w_named, w_hears, w_ripe, w_room, w_tables⟩
theorem atStart : AtStart classFile x code maxLocals ret World_1 tables_1 room_1 Calls_1 rest_1 Pre_1 launch0 p0 e0 about1 theMethod args0 below0 :=
  ⟨lists_1, trivial, launch0.admits_env _ _ _, launch0.least_env, fairChoices_fair.cas, fairChoices_fair.clock, w_frames, w_args, w_heap, w_applies, trivial, trivial, w_case⟩
end start1
theorem witness_1 : WitnessClaimed_1 := ⟨start1.p0, start1.e0, start1.about1, start1.theMethod, start1.args0, start1.below0, start1.atStart⟩
end Jvm.Pilot.@@N@@
