import JvmDerived
import JvmDerived.Pilot.@@N@@Statement
import JvmDerived.Pilot.@@N@@Code
set_option linter.unusedVariables false
set_option linter.unusedSimpArgs false
@@BLOCK:NumsL.lean.txt@@
namespace Jvm.Pilot.@@N@@
open Jvm Jvm.ClassFile Sem Op Lib Jvm.Free Jvm.Stand Jvm.LawKit Jvm.RoadKit Bundle Jvm.Pilot.@@N@@.Jvm.D
section Own
variable {p : Program} {l : Launch} {e : Env} {R : Room} {s : State} {m : MethodId} {args : Array Value} {below : List Frame} {meth : Method} {c : Code} {T : State} {locs : List Loc} {cells slots : Nat} {Z : State} {a0 : Array Value} {h : Heap}
/-- from here the walk comes to an end that P holds of -/
def own_G (p : Program) (e : Env) (below : List Frame) (P : State → Outcome → Prop) (T : State) (g : JFrame) : Prop := ∃ t o, Steps p.tables e below (T.setTop g) t ∧ P t o
def own_P (below : List Frame) (s : State) (rm : Room) (Q : Option Value → Heap → List Loc → Prop) (t : State) (o : Outcome) : Prop := t.status = .running ∧ Ended t below o ∧ ∃ v L, o = .returned v ∧ Q v t.heap L ∧ FrameEnd s o t L rm.cells rm.slots
/-- a body's contract: over these arguments and this heap it returns, and Q holds of what it returns, the heap and the places written -/
def own_M (l : Launch) (Z : State) (y : MethodName) (code : ByteArray) (maxL : Nat) (ret : Option FieldType) (rm : Room) (as : Array Value) (h : Heap) (Q : Option Value → Heap → List Loc → Prop) : Prop :=
  ∀ ws : List Jvm.Cond, MetFree l y (head1 (Jvm.Cond.code y code maxL ret :: ws) rm) (fun a U => a = as ∧ Z.Warmed39 U.vm ∧ U.heap = h) (fun _ _ _ _ _ => True) (fun _ U o U' => ∃ v L, o = .returned v ∧ Q v U'.heap L ∧ FrameEnd U o U' L rm.cells rm.slots)
theorem own_go {P : State → Outcome → Prop} {T' : State} {g g' : JFrame} (st : ∀ t, Steps p.tables e below (T'.setTop g') t → Steps p.tables e below (T.setTop g) t) (k : own_G p e below P T' g') : own_G p e below P T g := by
  obtain ⟨t, o, h1, h2⟩ := k
  exact ⟨t, o, st t h1, h2⟩
theorem own_body {y : MethodName} {code : ByteArray} {maxL : Nat} {ret : Option FieldType} {rm : Room} {as : Array Value} {Q : Option Value → Heap → List Loc → Prop} (hn : plainName y.cls = true)
    (body : ∀ (p : Program) (e : Env) (s : State) (m : MethodId) (below : List Frame) (meth : Method) (c : Code) (T : State), p.tables.exec = Jvm.exec → c.code = code → c.maxLocals = maxL → meth.locks = false → s.vm.findClass y.cls = some m.cls → meth.sig.returnType = ret → meth.name = y.name → Z.Warmed39 s.vm → Stand p l e rm s m as below meth c T [] 0 0 → T.heap = h → own_G p e below (own_P below s rm Q) T (entryFrame m as maxL)) :
    own_M l Z y code maxL ret rm as h Q := by
  intro ws
  refine MetFree.of_bodySF (plainFor_of_name hn) hisR ?_
  intro p e s m args below meth c s₁ Bd hml0 hP hK
  obtain ⟨rfl, hZ, hh⟩ := hP
  obtain ⟨t, o, h1, h2, h3, h4⟩ := body p e s m below meth c s₁ Bd.exec Bd.bytes hml0 Bd.notSynchronized (findClass_of_methodNamed Bd.named) Bd.returns (name_of_methodNamed Bd.named Bd.method).1 hZ (Stand.of_body Bd) (by rw [← hh, Bd.state]; rfl)
  exact ⟨t, o, h1, h2, h3, h4⟩
theorem own_retI {rm : Room} {Q : Option Value → Heap → List Loc → Prop} (X : Stand p l e R s m args below meth c T locs cells slots) (hx : p.tables.exec = Jvm.exec) (hlk : meth.locks = false) (hret : meth.sig.returnType = some .int) {pc : Nat} {Ls : Array Slot} {z : Int32} {rest : List Value} (hd : decode c.code pc = .ok (.ireturn, 1)) (hc : cells ≤ rm.cells) (hs : slots ≤ rm.slots) (hQ : Q (some (.int z)) T.heap locs) :
    own_G p e below (own_P below s rm Q) T (mkF m pc Ls (.int z :: rest)) := by
  obtain ⟨fs, hr, hrun, hended, hW, hsame⟩ := X.leave (v := some (.int z)) (fun h => by rw [hret] at h; cases h) hlk
  exact ⟨_, _, retOut X hx hret rfl (Or.inl ⟨rfl, Or.inl rfl, _, rfl⟩) hd hr, hrun, hended, _, _, rfl, hQ, ⟨_, rfl⟩, hW, hsame.mono hc hs⟩
theorem own_retN {rm : Room} {Q : Option Value → Heap → List Loc → Prop} (X : Stand p l e R s m args below meth c T locs cells slots) (hx : p.tables.exec = Jvm.exec) (hlk : meth.locks = false) {t : FieldType} (hret : meth.sig.returnType = some t) (ht : t = .boolean ∨ t = .byte ∨ t = .char ∨ t = .short) {pc : Nat} {Ls : Array Slot} {z : Int32} {rest : List Value} (hd : decode c.code pc = .ok (.ireturn, 1)) (hc : cells ≤ rm.cells) (hs : slots ≤ rm.slots) (hQ : Q (some (.int (nar t z))) T.heap locs) :
    own_G p e below (own_P below s rm Q) T (mkF m pc Ls (.int z :: rest)) := by
  obtain ⟨fs, hr, hrun, hended, hW, hsame⟩ := X.leave (v := some (.int (nar t z))) (fun h => by rw [hret] at h; cases h) hlk
  exact ⟨_, _, retN X hx hret ht hd hr, hrun, hended, _, _, rfl, hQ, ⟨_, rfl⟩, hW, hsame.mono hc hs⟩
theorem own_narrow {t : FieldType} {w : Value} (hw : w.isRef = true) : narrow t w = w := by
  rcases ref_cases hw with rfl | ⟨a, rfl⟩ <;> cases t <;> rfl
theorem own_retA {rm : Room} {Q : Option Value → Heap → List Loc → Prop} (X : Stand p l e R s m args below meth c T locs cells slots) (hx : p.tables.exec = Jvm.exec) (hlk : meth.locks = false) {t : FieldType} (hret : meth.sig.returnType = some t) (ht : t.isReference = true) {pc : Nat} {Ls : Array Slot} {w : Value} {rest : List Value} (hw : w.isRef = true) (hd : decode c.code pc = .ok (.areturn, 1)) (hc : cells ≤ rm.cells) (hs : slots ≤ rm.slots) (hQ : Q (some w) T.heap locs) :
    own_G p e below (own_P below s rm Q) T (mkF m pc Ls (w :: rest)) := by
  obtain ⟨fs, hr, hrun, hended, hW, hsame⟩ := X.leave (v := some w) (fun h => by rw [hret] at h; cases h) hlk
  exact ⟨_, _, retOut X hx hret (own_narrow hw) (Or.inr (Or.inr (Or.inr (Or.inr ⟨rfl, ht, hw⟩)))) hd hr, hrun, hended, _, _, rfl, hQ, ⟨_, rfl⟩, hW, hsame.mono hc hs⟩
theorem own_ret0 {rm : Room} {Q : Option Value → Heap → List Loc → Prop} (X : Stand p l e R s m args below meth c T locs cells slots) (hx : p.tables.exec = Jvm.exec) (hlk : meth.locks = false) (hret : meth.sig.returnType = none) {pc : Nat} {Ls : Array Slot} (hd : decode c.code pc = .ok (.return_, 1)) (hc : cells ≤ rm.cells) (hs : slots ≤ rm.slots) (hQ : Q none T.heap locs) :
    own_G p e below (own_P below s rm Q) T (mkF m pc Ls []) := by
  obtain ⟨fs, hr, hrun, hended, hW, hsame⟩ := X.leave (v := none) (fun _ => rfl) hlk
  exact ⟨_, _, X.returnOut hx hret hd hr, hrun, hended, _, _, rfl, hQ, ⟨_, rfl⟩, hW, hsame.mono hc hs⟩
theorem own_callS (X : Stand p l e R s m args below meth c T locs cells slots) (hx : p.tables.exec = Jvm.exec) (hZ : Z.Warmed39 s.vm) {own : String} {index : Nat} {y : MethodName} {bytes : ByteArray} {maxL : Nat} {ret : Option FieldType} (hown : s.vm.findClass own = some m.cls)
    (w1 : (Jvm.Cond.methodLink own index y).before a0 Z = true) (w2 : (Jvm.Cond.static y).before a0 Z = true) (w3 : (Jvm.Cond.initialized y.cls).before a0 Z = true) (w4 : (Jvm.Cond.code y bytes maxL ret).before a0 Z = true) (hy : y.cls ≠ "java/lang/invoke/MethodHandle" ∧ y.cls ≠ "java/lang/invoke/VarHandle")
    {rm : Room} {argsL rest : List Value} {Q : Option Value → Heap → List Loc → Prop} (hM : own_M l Z y bytes maxL ret rm argsL.toArray h Q) (eT : T.heap = h) {g : JFrame} (hg : g.method = m) (hsize : g.locals.size = c.maxLocals) {ps : List FieldType} {r : Option FieldType} (hpd : parseMethodDescriptor y.desc = some ⟨ps, r⟩) (hpl : argsL.length = ps.length)
    (hstack : g.stack = argsL.reverse ++ rest) {W : Nat} (hW : 2 * g.monitorRoom + (rest.map fun v => v.category).sum ≤ W) (hdg : decode c.code g.pc = .ok (.invokestatic index, 3)) (hf : rm.frames + 1 ≤ R.frames) (hl : W + (maxL + 11) + rm.locals ≤ R.locals) (hc : cells + rm.cells ≤ R.cells) (hs : slots + rm.slots ≤ R.slots) :
    ∃ (T' : State) (L : List Loc) (v : Option Value), Stand p l e R s m args below meth c T' (locs ++ L) (cells + rm.cells) (slots + rm.slots) ∧ Q v T'.heap L ∧ ∀ t, Steps p.tables e below (T'.setTop { g with pc := g.pc + 3, stack := v.toList ++ rest }) t → Steps p.tables e below (T.setTop g) t := by
  obtain ⟨v, vm₁, ⟨T', L', k', n'⟩, -, X', ⟨L, hQ, e1, e2, e3⟩, st⟩ := Jvm.LawKit.callS X hx (y := y) hown (mvT hZ w1) (mvT hZ w2) (mvT hZ w3) (mvT hZ w4) hy (backOf (W := W) (hM []) hZ w4 w3 hf hl) hg hsize (argsL := argsL) (rest := rest) (lenOf hpd hpl) hstack hW hdg (fun _ _ => ⟨rfl, eT, hc, hs⟩)
  dsimp only [Pt.U, Pt.locs, Pt.cells, Pt.slots] at X' e1 e2 e3 st hQ
  subst e1 e2 e3
  exact ⟨T', L, v, X', hQ, st⟩
theorem own_callV (X : Stand p l e R s m args below meth c T locs cells slots) (hx : p.tables.exec = Jvm.exec) (hZ : Z.Warmed39 s.vm) {own C : String} {index : Nat} {y z : MethodName} {bytes : ByteArray} {maxL : Nat} {ret : Option FieldType} (hown : s.vm.findClass own = some m.cls)
    (w1 : (Jvm.Cond.methodLink own index y).before a0 Z = true) (w2 : (Jvm.Cond.declares y).before a0 Z = true) (w3 : (Jvm.Cond.selects y.cls y z).before a0 Z = true) (w3' : (Jvm.Cond.selects C y z).before a0 Z = true) (w4 : (Jvm.Cond.instanceMethod z).before a0 Z = true) (w5 : (Jvm.Cond.code z bytes maxL ret).before a0 Z = true) (w6 : (Jvm.Cond.initialized z.cls).before a0 Z = true) (hnf : NotFace s y)
    (hy : y.cls ≠ "java/lang/invoke/MethodHandle" ∧ y.cls ≠ "java/lang/invoke/VarHandle")
    {rm : Room} {a : Addr} {argsL rest : List Value} {Q : Option Value → Heap → List Loc → Prop} (hM : own_M l Z z bytes maxL ret rm (.ref a :: argsL).toArray h Q) (eT : T.heap = h) (E : Exa Z h a C) {g : JFrame} (hg : g.method = m) (hsize : g.locals.size = c.maxLocals) {ps : List FieldType} {r : Option FieldType} (hpd : parseMethodDescriptor y.desc = some ⟨ps, r⟩) (hpl : argsL.length = ps.length)
    (hstack : g.stack = argsL.reverse ++ .ref a :: rest) {W : Nat} (hW : 2 * g.monitorRoom + (rest.map fun v => v.category).sum ≤ W) (hdg : decode c.code g.pc = .ok (.invokevirtual index, 3)) (hf : rm.frames + 1 ≤ R.frames) (hl : W + (maxL + 11) + rm.locals ≤ R.locals) (hc : cells + rm.cells ≤ R.cells) (hs : slots + rm.slots ≤ R.slots) :
    ∃ (T' : State) (L : List Loc) (v : Option Value), Stand p l e R s m args below meth c T' (locs ++ L) (cells + rm.cells) (slots + rm.slots) ∧ Q v T'.heap L ∧ ∀ t, Steps p.tables e below (T'.setTop { g with pc := g.pc + 3, stack := v.toList ++ rest }) t → Steps p.tables e below (T.setTop g) t := by
  obtain ⟨cq, kq, qa, qb, qc⟩ := isOf hZ eT E
  obtain ⟨v, vm₁, ⟨T', L', k', n'⟩, -, X', ⟨L, hQ, e1, e2, e3⟩, st⟩ := X.virtualBack hx (y := y) (z := z) hown (mvT hZ w1) (mvT hZ w2) hnf (mvT hZ w3') (mvT hZ w4) hy (backOf (W := W) (hM []) hZ w5 w6 hf hl) qa qc hg hsize (Steps.refl _) (argsL := argsL) (rest := rest) (lenOf hpd hpl) hstack hW hdg (fun _ _ => ⟨rfl, eT, hc, hs⟩)
  dsimp only [Pt.U, Pt.locs, Pt.cells, Pt.slots] at X' e1 e2 e3 st hQ
  subst e1 e2 e3
  exact ⟨T', L, v, X', hQ, fun t k => st.trans k⟩
theorem own_callU (X : Stand p l e R s m args below meth c T locs cells slots) (hx : p.tables.exec = Jvm.exec) (hZ : Z.Warmed39 s.vm) {own C owner : String} {index : Nat} {y z : MethodName} {bytes : ByteArray} {maxL : Nat} {ret : Option FieldType} (hown : s.vm.findClass own = some m.cls)
    (w1 : (Jvm.Cond.methodLink own index y).before a0 Z = true) (w2 : (Jvm.Cond.sameMethod y.cls owner y.name y.desc).before a0 Z = true) (w2' : (Jvm.Cond.declares ⟨owner, y.name, y.desc⟩).before a0 Z = true) (w3 : (Jvm.Cond.selects C y z).before a0 Z = true) (w4 : (Jvm.Cond.instanceMethod z).before a0 Z = true) (w5 : (Jvm.Cond.code z bytes maxL ret).before a0 Z = true) (w6 : (Jvm.Cond.initialized z.cls).before a0 Z = true)
    (hy : owner ≠ "java/lang/invoke/MethodHandle" ∧ owner ≠ "java/lang/invoke/VarHandle")
    {rm : Room} {a : Addr} {argsL rest : List Value} {Q : Option Value → Heap → List Loc → Prop} (hM : own_M l Z z bytes maxL ret rm (.ref a :: argsL).toArray h Q) (eT : T.heap = h) (E : Exa Z h a C) {g : JFrame} (hg : g.method = m) (hsize : g.locals.size = c.maxLocals) {ps : List FieldType} {r : Option FieldType} (hpd : parseMethodDescriptor y.desc = some ⟨ps, r⟩) (hpl : argsL.length = ps.length)
    (hstack : g.stack = argsL.reverse ++ .ref a :: rest) {W : Nat} (hW : 2 * g.monitorRoom + (rest.map fun v => v.category).sum ≤ W) (hdg : decode c.code g.pc = .ok (.invokevirtual index, 3)) (hf : rm.frames + 1 ≤ R.frames) (hl : W + (maxL + 11) + rm.locals ≤ R.locals) (hc : cells + rm.cells ≤ R.cells) (hs : slots + rm.slots ≤ R.slots) :
    ∃ (T' : State) (L : List Loc) (v : Option Value), Stand p l e R s m args below meth c T' (locs ++ L) (cells + rm.cells) (slots + rm.slots) ∧ Q v T'.heap L ∧ ∀ t, Steps p.tables e below (T'.setTop { g with pc := g.pc + 3, stack := v.toList ++ rest }) t → Steps p.tables e below (T.setTop g) t := by
  obtain ⟨cq, kq, qa, qb, qc⟩ := isOf hZ eT E
  obtain ⟨v, vm₁, ⟨T', L', k', n'⟩, -, X', ⟨L, hQ, e1, e2, e3⟩, st⟩ := X.virtualBackUp hx (x := y) (y := z) hown (mvT hZ w1) (mvT hZ w2) (mvT hZ w2') hy (mvT hZ w3) (mvT hZ w4) (backOf (W := W) (hM []) hZ w5 w6 hf hl) qa qc hg hsize (Steps.refl _) (argsL := argsL) (rest := rest) (lenOf hpd hpl) hstack hW hdg (fun _ _ => ⟨rfl, eT, hc, hs⟩)
  dsimp only [Pt.U, Pt.locs, Pt.cells, Pt.slots] at X' e1 e2 e3 st hQ
  subst e1 e2 e3
  exact ⟨T', L, v, X', hQ, fun t k => st.trans k⟩
theorem own_neL {i K : Int32} {k : Int} (h : ¬ i = K) (hk : K.toInt = k) : k ≠ i.toInt := fun q => h (Int32.toInt_inj.mp (by rw [hk, q]))
abbrev own_cell (cA : ClassId) (vs : Array Value) : Cell := { cls := cA, slots := vs, vm := .none }
theorem own_in {cl : Cell} {j : Int32} {n : Nat} (hs : cl.slots.size = n) (hj : ¬ (j < 0 ∨ n ≤ j.toNatClampNeg)) : ¬ (j < 0 ∨ cl.slots.size ≤ j.toNatClampNeg) := by rw [hs]; exact hj
theorem own_ext_refl (h : Heap) : Ext h h := ⟨Nat.le_refl _, fun _ _ q => q⟩
theorem own_ext_trans {h0 h h' : Heap} (E : Ext h0 h) (E' : Ext h h') : Ext h0 h' := ⟨Nat.le_trans E.1 E'.1, fun a c q => E'.2 a c (E.2 a c q)⟩
theorem own_ext_eq {h0 h h' : Heap} (E : Ext h0 h) (q : h' = h) : Ext h0 h' := q ▸ E
theorem own_acVF {v w : Value} (q : v = w) : Jvm.Free.XT.acmp .ne v w = false := by subst q; simp [Jvm.Free.XT.acmp]
theorem own_ext_wr {h0 h h' : Heap} {a : Addr} {sl : Nat} {v : Value} (E : Ext h0 h) (W : Wr h h' a sl v) (q : h0.size ≤ a) : Ext h0 h' := by
  refine ⟨by rw [W.size]; exact E.1, fun x cx hx => ?_⟩
  obtain ⟨c', e1, -, -, -, e5, -⟩ := wr_at W (E.2 x cx hx)
  rw [← e5 (Nat.ne_of_lt (Nat.lt_of_lt_of_le (Array.getElem?_eq_some_iff.mp hx).1 q))]
  exact e1
theorem own_fld {t : Term} {a : Addr} {C n d : String} {k : Int32} (ev : t.eval args Z none [] Z = some (.ref a)) (w : (Jvm.Cond.eq (.field t C n d) (.int k)).value args Z none Z [] = some true) : Fld Z Z.heap a C n d (.int k) := by
  obtain ⟨x, y, e1, e2, k1, k2⟩ := cmp_v (Or.inl w)
  obtain rfl : y = .int k := (Option.some.inj e2).symm
  obtain ⟨z, rfl⟩ := k2
  have hz := gotT (Jvm.Cond.eq_ints e1 e2) w
  rw [fld_at ev] at e1
  rw [hz] at e1
  exact Fld.start e1
theorem own_len {t : Term} {a : Addr} {cl : Cell} {ty : FieldType} {k : Int32} (ev : t.eval args Z none [] Z = some (.ref a)) (A : Arr Z Z.heap a cl ty) (w : (Jvm.Cond.eq (.length t) (.int k)).value args Z none Z [] = some true) : cl.slots.size = k.toInt.toNat := by
  obtain ⟨x, y, e1, e2, k1, k2⟩ := cmp_v (Or.inl w)
  obtain rfl : y = .int k := (Option.some.inj e2).symm
  obtain ⟨z, rfl⟩ := k2
  have hz := gotT (Jvm.Cond.eq_ints e1 e2) w
  have hA : Z.arrayAt? a = some cl := Arr.fin (Vm.Alike.refl _) A
  by_cases hl : cl.slots.size < 2 ^ 31
  · rw [len_f ev hA hl] at e1
    have h1 : cl.slots.size.toInt32 = z := Value.int.inj (Option.some.inj e1)
    rw [← hz, ← h1, len_toInt hl]
    rfl
  · simp [Term.eval, ev, hA, hl] at e1
theorem own_elemI {t : Term} {a : Addr} {cl : Cell} {ty : FieldType} {j k : Int32} (ev : t.eval args Z none [] Z = some (.ref a)) (A : Arr Z Z.heap a cl ty) (w : (Jvm.Cond.eq (.elem t (.int j)) (.int k)).value args Z none Z [] = some true) : cl.slots[j.toNatClampNeg]? = some (.int k) := by
  obtain ⟨x, y, e1, e2, k1, k2⟩ := cmp_v (Or.inl w)
  obtain rfl : y = .int k := (Option.some.inj e2).symm
  obtain ⟨z, rfl⟩ := k2
  have hz := gotT (Jvm.Cond.eq_ints e1 e2) w
  rw [← hz]
  exact (elem_in e1 ev (Term.int_eval j) A.1).2
theorem own_elemR {t u : Term} {a b : Addr} {cl : Cell} {ty : FieldType} {j : Int32} (ev : t.eval args Z none [] Z = some (.ref a)) (A : Arr Z Z.heap a cl ty) (ev' : u.eval args Z none [] Z = some (.ref b)) (w : (Jvm.Cond.eq (.elem t (.int j)) u).value args Z none Z [] = some true) : cl.slots[j.toNatClampNeg]? = some (.ref b) := by
  obtain ⟨x, y, e1, e2, k1, k2⟩ := cmp_v (Or.inl w)
  obtain rfl : y = .ref b := (Option.some.inj (ev'.symm.trans e2)).symm
  have hz := gotT (eq_R e1 e2 k2.2 rfl) w
  rw [← hz]
  exact (elem_in e1 ev (Term.int_eval j) A.1).2
theorem own_neV {a b : Int32} (h : a ≠ b) : (Value.int a) ≠ Value.int b := fun q => h (Value.int.inj q)
theorem own_acT {a b : Addr} (h : a = b) : Jvm.Free.XT.acmp .eq (.ref a) (.ref b) = true := by subst h; simp [Jvm.Free.XT.acmp]
theorem own_acF {a b : Addr} (h : a ≠ b) : Jvm.Free.XT.acmp .eq (.ref a) (.ref b) = false := by simp [Jvm.Free.XT.acmp, h]
theorem own_acnT {a b : Addr} (h : a ≠ b) : Jvm.Free.XT.acmp .ne (.ref a) (.ref b) = true := by simp [Jvm.Free.XT.acmp, h]
theorem own_acnF {a b : Addr} (h : a = b) : Jvm.Free.XT.acmp .ne (.ref a) (.ref b) = false := by subst h; simp [Jvm.Free.XT.acmp]
theorem own_mask (x : Int32) : 0 ≤ (x &&& 2147483647).toInt := by
  have := Jvm.Kit.i32_mask x 2147483647 (k := 31) (by decide) (by decide)
  omega
theorem own_rem (y n : Int32) (h0 : 0 ≤ y.toInt) (hn : 0 < n.toInt) : 0 ≤ (y % n).toInt ∧ (y % n).toInt < n.toInt := by
  rw [Int32.toInt_mod]
  exact ⟨Int.tmod_nonneg _ h0, by
    have := Int.tmod_lt_of_pos y.toInt hn
    exact this⟩
end Own
end Jvm.Pilot.@@N@@
namespace Jvm.Pilot.@@N@@
open Jvm Jvm.ClassFile Sem Op Lib Jvm.Free Jvm.Stand Jvm.LawKit Jvm.RoadKit Bundle Jvm.Pilot.@@N@@.Jvm.D
def own_B (Z : State) (h : Heap) (a_START a_STOP : Addr) (cl_START cl_STOP : Cell) : Prop := Sta Z h "com/example/compensa/compensa/Interleaved2of5" "START" "[I" (.ref a_START) ∧ Arr Z h a_START cl_START .int ∧ cl_START.slots.size = 4 ∧ Sta Z h "com/example/compensa/compensa/Interleaved2of5" "STOP" "[I" (.ref a_STOP) ∧ Arr Z h a_STOP cl_STOP .int ∧ cl_STOP.slots.size = 3
theorem own_B_ext {Z : State} {h h' : Heap} {a_START a_STOP : Addr} {cl_START cl_STOP : Cell} (E : Ext h h') (B : own_B Z h a_START a_STOP cl_START cl_STOP) : own_B Z h' a_START a_STOP cl_START cl_STOP := by
  obtain ⟨S_START, A_START, Z_START, S_STOP, A_STOP, Z_STOP⟩ := B
  exact ⟨S_START.ext E, A_START.ext E, Z_START, S_STOP.ext E, A_STOP.ext E, Z_STOP⟩
def own_el (a_START a_STOP : Addr) (cl_START cl_STOP : Cell) (x1 : Int32) : Int32 := (((4 : Int32) + ((5 : Int32) * x1)) + (3 : Int32))
theorem d1_0 : decode prog_31_method_2_code 0 = .ok (.getstatic 7, 3) := by decide +kernel
theorem d1_3 : decode prog_31_method_2_code 3 = .ok (.arraylength, 1) := by decide +kernel
theorem d1_4 : decode prog_31_method_2_code 4 = .ok (.iconst 5, 1) := by decide +kernel
theorem d1_5 : decode prog_31_method_2_code 5 = .ok (.iload_n 0, 1) := by decide +kernel
theorem d1_6 : decode prog_31_method_2_code 6 = .ok (.imul, 1) := by decide +kernel
theorem d1_7 : decode prog_31_method_2_code 7 = .ok (.iadd, 1) := by decide +kernel
theorem d1_8 : decode prog_31_method_2_code 8 = .ok (.getstatic 13, 3) := by decide +kernel
theorem d1_11 : decode prog_31_method_2_code 11 = .ok (.arraylength, 1) := by decide +kernel
theorem d1_12 : decode prog_31_method_2_code 12 = .ok (.iadd, 1) := by decide +kernel
theorem d1_13 : decode prog_31_method_2_code 13 = .ok (.ireturn, 1) := by decide +kernel
theorem pn_1 : plainName "com/example/compensa/compensa/Interleaved2of5" = true := by first | (simp [plainName, overriddenIn]; done) | decide +kernel
set_option maxRecDepth 65536 in
set_option maxHeartbeats 40000000 in
theorem c_el (l : Launch) (Z : State) (a0 : Array Value) (hw : ∀ d ∈ tables_1, d.before a0 Z = true) (a_START a_STOP : Addr) (cl_START cl_STOP : Cell) (x1 : Int32) (h0 : Heap) (B : own_B Z h0 a_START a_STOP cl_START cl_STOP) :
    own_M l Z (⟨"com/example/compensa/compensa/Interleaved2of5", "elements", "(I)I"⟩ : MethodName) prog_31_method_2_code 1 (some .int) ⟨0, 0, 0, 0⟩ #[.int x1] h0 (fun v h L => v = some (.int (own_el a_START a_STOP cl_START cl_STOP x1)) ∧ L = [] ∧ h = h0) := by
  refine own_body pn_1 ?_
  intro p e s m below meth c T0 hx hby hml hlk hown hret hnm hZ X0 e0
  replace hown : s.vm.findClass "com/example/compensa/compensa/Interleaved2of5" = some m.cls := hown
  replace hml : c.maxLocals = 1 := hml
  obtain ⟨S_START, A_START, Z_START, S_STOP, A_STOP, Z_STOP⟩ := id B
  have ef : entryFrame m #[.int x1] 1 = (mkF m 0 #[.val (.int x1)] []) := by first | (simp [entryFrame, mkF, argsToLocals, Value.category]; done) | rfl
  rw [ef]
  obtain ⟨T1, X1, e1, st1⟩ := getS X0 hx hZ hown (host := "") (hw _ (List.mem_of_getElem? (i := 4) rfl)) Via.refl e0 S_START (g := (mkF m 0 #[.val (.int x1)] [])) rfl (hb hby d1_0)
  refine own_go st1 ?_
  show own_G p e below _ T1 (mkF m 3 #[.val (.int x1)] [(.ref a_START)])
  refine own_go (X1.arraylength hx (by rw [e1]; exact A_START.1) (State.isArrayOf_alike hZ.alike A_START.2.1) (g := (mkF m 3 #[.val (.int x1)] [(.ref a_START)])) rfl rfl (hb hby d1_3)) ?_
  rw [Z_START]
  show own_G p e below _ T1 (mkF m 4 #[.val (.int x1)] [(.int (4 : Int32))])
  refine own_go (fun t k => XS.iconst X1.here hx rfl (hb hby d1_4) k) ?_
  show own_G p e below _ T1 (mkF m 5 #[.val (.int x1)] [(.int (5 : Int32)), (.int (4 : Int32))])
  refine own_go (fun t k => XS.iloadN X1.here hx rfl (hb hby d1_5) rfl k) ?_
  show own_G p e below _ T1 (mkF m 6 #[.val (.int x1)] [(.int x1), (.int (5 : Int32)), (.int (4 : Int32))])
  refine own_go (fun t k => XS.imul X1.here hx rfl (hb hby d1_6) rfl k) ?_
  show own_G p e below _ T1 (mkF m 7 #[.val (.int x1)] [(.int ((5 : Int32) * x1)), (.int (4 : Int32))])
  refine own_go (fun t k => XS.iadd X1.here hx rfl (hb hby d1_7) rfl k) ?_
  show own_G p e below _ T1 (mkF m 8 #[.val (.int x1)] [(.int ((4 : Int32) + ((5 : Int32) * x1)))])
  obtain ⟨T2, X2, e2, st2⟩ := getS X1 hx hZ hown (host := "") (hw _ (List.mem_of_getElem? (i := 6) rfl)) Via.refl e1 S_STOP (g := (mkF m 8 #[.val (.int x1)] [(.int ((4 : Int32) + ((5 : Int32) * x1)))])) rfl (hb hby d1_8)
  refine own_go st2 ?_
  show own_G p e below _ T2 (mkF m 11 #[.val (.int x1)] [(.ref a_STOP), (.int ((4 : Int32) + ((5 : Int32) * x1)))])
  refine own_go (X2.arraylength hx (by rw [e2]; exact A_STOP.1) (State.isArrayOf_alike hZ.alike A_STOP.2.1) (g := (mkF m 11 #[.val (.int x1)] [(.ref a_STOP), (.int ((4 : Int32) + ((5 : Int32) * x1)))])) rfl rfl (hb hby d1_11)) ?_
  rw [Z_STOP]
  show own_G p e below _ T2 (mkF m 12 #[.val (.int x1)] [(.int (3 : Int32)), (.int ((4 : Int32) + ((5 : Int32) * x1)))])
  refine own_go (fun t k => XS.iadd X2.here hx rfl (hb hby d1_12) rfl k) ?_
  show own_G p e below _ T2 (mkF m 13 #[.val (.int x1)] [(.int (((4 : Int32) + ((5 : Int32) * x1)) + (3 : Int32)))])
  exact own_retI X2 hx hlk hret (hb hby d1_13) (by decide) (by decide) ⟨rfl, rfl, e2⟩
theorem own_hA (x : Int32) : ((4 + 5 * x) + 3) - 7 = 5 * x := by
  apply Int32.toBitVec_inj.mp
  simp only [Int32.toBitVec_sub, Int32.toBitVec_add, Int32.toBitVec_mul, Int32.toBitVec_ofNat]
  bv_omega
theorem own_hB (x : Int32) : ((4 + 5 * (x + 1)) + 3) - ((4 + 5 * x) + 3) = 5 := by
  apply Int32.toBitVec_inj.mp
  simp only [Int32.toBitVec_sub, Int32.toBitVec_add, Int32.toBitVec_mul, Int32.toBitVec_ofNat]
  bv_omega
theorem own_even (x : Int32) : (x &&& -2).toInt % 2 = 0 := by
  have h := Jvm.Kit.i32_mask (x &&& -2) 1 (k := 1) (by decide) (by decide)
  have h2 : (x &&& -2) &&& 1 = 0 := by
    rw [Int32.and_assoc]
    have : (-2 &&& 1 : Int32) = 0 := by decide
    rw [this]; simp
  rw [h2] at h
  have h0 : (0 : Int32).toInt = 0 := by decide
  omega
theorem own_bm (z : Int) : Int.bmod z (2 ^ 32) % 2 = z % 2 := by
  have h : Int.bmod z (2 ^ 32) % ((2 ^ 32 : Nat) : Int) = z % ((2 ^ 32 : Nat) : Int) := Int.bmod_emod
  generalize Int.bmod z (2 ^ 32) = w at h
  omega
theorem own_par (a b : Int32) : (a + b).toInt % 2 = (a.toInt + b.toInt) % 2 := by
  rw [Int32.toInt_add]
  exact own_bm _
theorem own_parm (a b : Int32) : (a * b).toInt % 2 = (a.toInt * b.toInt) % 2 := by
  rw [Int32.toInt_mul]
  exact own_bm _
theorem own_hC (x : Int32) : ((4 + 5 * (x &&& -2)) + 3) &&& 1 = 1 := by
  have h := Jvm.Kit.i32_mask ((4 + 5 * (x &&& -2)) + 3) 1 (k := 1) (by decide) (by decide)
  apply Int32.toInt_inj.mp
  rw [h]
  have h1 : (1 : Int32).toInt = 1 := by decide
  have h3 : (3 : Int32).toInt = 3 := by decide
  have h4 : (4 : Int32).toInt = 4 := by decide
  have h5 : (5 : Int32).toInt = 5 := by decide
  have q1 := own_par (4 + 5 * (x &&& -2)) 3
  have q2 := own_par 4 (5 * (x &&& -2))
  have q3 := own_parm 5 (x &&& -2)
  have q4 := own_even x
  rw [h1]; rw [h3] at q1; rw [h4] at q2; rw [h5] at q3
  omega
theorem pn_0 : plainName "com/example/compensa/compensa/Interleaved2of5ElementsPinLaw" = true := by first | (simp [plainName, overriddenIn]; done) | decide +kernel
set_option maxRecDepth 65536 in
set_option maxHeartbeats 40000000 in
theorem rm0 (l : Launch) (Z : State) (a0 : Array Value) (hw : ∀ d ∈ tables_1, d.before a0 Z = true) (i0 : Int32) (a_START a_STOP : Addr) (cl_START cl_STOP : Cell) (h0 : Heap) (n0 : Nat) (Z0 : n0 ≤ h0.size) (B : own_B Z h0 a_START a_STOP cl_START cl_STOP) :
    own_M l Z x code maxLocals ret room_1 #[.int i0] h0 (fun v h L => v = some (.int 1) ∧ Fr n0 L) := by
  refine own_body pn_0 ?_
  intro p e s m below meth c T0 hx hby hml hlk hown hret hnm hZ X0 e0
  replace hown : s.vm.findClass "com/example/compensa/compensa/Interleaved2of5ElementsPinLaw" = some m.cls := hown
  replace hml : c.maxLocals = 10 := hml
  replace hret : meth.sig.returnType = some .boolean := hret
  obtain ⟨S_START, A_START, Z_START, S_STOP, A_STOP, Z_STOP⟩ := id B
  have N0 := Fr.nil n0
  have ef : entryFrame m #[.int i0] maxLocals = (mkF m 0 #[.val (.int i0), .unset, .unset, .unset, .unset, .unset, .unset, .unset, .unset, .unset] []) := by first | (simp [entryFrame, mkF, argsToLocals, Value.category, maxLocals]; done) | rfl
  rw [ef]
  refine own_go (fun t k => XS.iconst X0.here hx rfl (hb hby at_0) k) ?_
  show own_G p e below _ T0 (mkF m 1 #[.val (.int i0), .unset, .unset, .unset, .unset, .unset, .unset, .unset, .unset, .unset] [(.int (0 : Int32))])
  obtain ⟨T1, L1, v1, X1, ⟨rfl, rfl, q1⟩, st1⟩ := own_callS X0 hx hZ (y := (⟨"com/example/compensa/compensa/Interleaved2of5", "elements", "(I)I"⟩ : MethodName)) hown (hw _ (List.mem_of_getElem? (i := 0) rfl)) (hw _ (List.mem_of_getElem? (i := 1) rfl)) (hw _ (List.mem_of_getElem? (i := 2) rfl)) (hw _ (List.mem_of_getElem? (i := 3) rfl)) (by decide) (c_el l Z a0 hw a_START a_STOP cl_START cl_STOP (0 : Int32) h0 B ) e0 (argsL := [(.int (0 : Int32))]) (rest := []) (g := (mkF m 1 #[.val (.int i0), .unset, .unset, .unset, .unset, .unset, .unset, .unset, .unset, .unset] [(.int (0 : Int32))])) rfl (by rw [hml]; rfl) (ps := [.int]) (r := (some .int)) (by decide +kernel) rfl rfl (W := 0) (by show 2 * 0 + _ ≤ _; exact Nat.le_of_eq rfl) (hb hby at_1) (by decide) (by decide) (by decide) (by decide)
  have N1 := Fr.app N0 (Fr.nil n0)
  refine own_go st1 ?_
  show own_G p e below _ T1 (mkF m 4 #[.val (.int i0), .unset, .unset, .unset, .unset, .unset, .unset, .unset, .unset, .unset] [(.int (own_el a_START a_STOP cl_START cl_STOP (0 : Int32)))])
  have r1 : (own_el a_START a_STOP cl_START cl_STOP (0 : Int32)) = (7 : Int32) := by unfold own_el; rfl
  rw [r1]
  show own_G p e below _ T1 (mkF m 4 #[.val (.int i0), .unset, .unset, .unset, .unset, .unset, .unset, .unset, .unset, .unset] [(.int (7 : Int32))])
  refine own_go (fun t k => XS.istoreN X1.here hx rfl (hb hby at_4) rfl (l' := #[.val (.int i0), .val (.int (7 : Int32)), .unset, .unset, .unset, .unset, .unset, .unset, .unset, .unset]) rfl k) ?_
  show own_G p e below _ T1 (mkF m 5 #[.val (.int i0), .val (.int (7 : Int32)), .unset, .unset, .unset, .unset, .unset, .unset, .unset, .unset] [])
  refine own_go (fun t k => XS.iloadN X1.here hx rfl (hb hby at_5) rfl k) ?_
  show own_G p e below _ T1 (mkF m 6 #[.val (.int i0), .val (.int (7 : Int32)), .unset, .unset, .unset, .unset, .unset, .unset, .unset, .unset] [(.int i0)])
  obtain ⟨T2, L2, v2, X2, ⟨rfl, rfl, q2⟩, st2⟩ := own_callS X1 hx hZ (y := (⟨"com/example/compensa/compensa/Interleaved2of5", "elements", "(I)I"⟩ : MethodName)) hown (hw _ (List.mem_of_getElem? (i := 0) rfl)) (hw _ (List.mem_of_getElem? (i := 1) rfl)) (hw _ (List.mem_of_getElem? (i := 2) rfl)) (hw _ (List.mem_of_getElem? (i := 3) rfl)) (by decide) (c_el l Z a0 hw a_START a_STOP cl_START cl_STOP i0 h0 B ) q1 (argsL := [(.int i0)]) (rest := []) (g := (mkF m 6 #[.val (.int i0), .val (.int (7 : Int32)), .unset, .unset, .unset, .unset, .unset, .unset, .unset, .unset] [(.int i0)])) rfl (by rw [hml]; rfl) (ps := [.int]) (r := (some .int)) (by decide +kernel) rfl rfl (W := 0) (by show 2 * 0 + _ ≤ _; exact Nat.le_of_eq rfl) (hb hby at_6) (by decide) (by decide) (by decide) (by decide)
  have N2 := Fr.app N1 (Fr.nil n0)
  refine own_go st2 ?_
  show own_G p e below _ T2 (mkF m 9 #[.val (.int i0), .val (.int (7 : Int32)), .unset, .unset, .unset, .unset, .unset, .unset, .unset, .unset] [(.int (own_el a_START a_STOP cl_START cl_STOP i0))])
  have r2 : (own_el a_START a_STOP cl_START cl_STOP i0) = (((4 : Int32) + ((5 : Int32) * i0)) + (3 : Int32)) := by unfold own_el; rfl
  rw [r2]
  show own_G p e below _ T2 (mkF m 9 #[.val (.int i0), .val (.int (7 : Int32)), .unset, .unset, .unset, .unset, .unset, .unset, .unset, .unset] [(.int (((4 : Int32) + ((5 : Int32) * i0)) + (3 : Int32)))])
  refine own_go (fun t k => XS.istoreN X2.here hx rfl (hb hby at_9) rfl (l' := #[.val (.int i0), .val (.int (7 : Int32)), .val (.int (((4 : Int32) + ((5 : Int32) * i0)) + (3 : Int32))), .unset, .unset, .unset, .unset, .unset, .unset, .unset]) rfl k) ?_
  show own_G p e below _ T2 (mkF m 10 #[.val (.int i0), .val (.int (7 : Int32)), .val (.int (((4 : Int32) + ((5 : Int32) * i0)) + (3 : Int32))), .unset, .unset, .unset, .unset, .unset, .unset, .unset] [])
  refine own_go (fun t k => XS.iloadN X2.here hx rfl (hb hby at_10) rfl k) ?_
  show own_G p e below _ T2 (mkF m 11 #[.val (.int i0), .val (.int (7 : Int32)), .val (.int (((4 : Int32) + ((5 : Int32) * i0)) + (3 : Int32))), .unset, .unset, .unset, .unset, .unset, .unset, .unset] [(.int i0)])
  refine own_go (fun t k => XS.iconst X2.here hx rfl (hb hby at_11) k) ?_
  show own_G p e below _ T2 (mkF m 12 #[.val (.int i0), .val (.int (7 : Int32)), .val (.int (((4 : Int32) + ((5 : Int32) * i0)) + (3 : Int32))), .unset, .unset, .unset, .unset, .unset, .unset, .unset] [(.int (1 : Int32)), (.int i0)])
  refine own_go (fun t k => XS.iadd X2.here hx rfl (hb hby at_12) rfl k) ?_
  show own_G p e below _ T2 (mkF m 13 #[.val (.int i0), .val (.int (7 : Int32)), .val (.int (((4 : Int32) + ((5 : Int32) * i0)) + (3 : Int32))), .unset, .unset, .unset, .unset, .unset, .unset, .unset] [(.int (i0 + (1 : Int32)))])
  obtain ⟨T3, L3, v3, X3, ⟨rfl, rfl, q3⟩, st3⟩ := own_callS X2 hx hZ (y := (⟨"com/example/compensa/compensa/Interleaved2of5", "elements", "(I)I"⟩ : MethodName)) hown (hw _ (List.mem_of_getElem? (i := 0) rfl)) (hw _ (List.mem_of_getElem? (i := 1) rfl)) (hw _ (List.mem_of_getElem? (i := 2) rfl)) (hw _ (List.mem_of_getElem? (i := 3) rfl)) (by decide) (c_el l Z a0 hw a_START a_STOP cl_START cl_STOP (i0 + (1 : Int32)) h0 B ) q2 (argsL := [(.int (i0 + (1 : Int32)))]) (rest := []) (g := (mkF m 13 #[.val (.int i0), .val (.int (7 : Int32)), .val (.int (((4 : Int32) + ((5 : Int32) * i0)) + (3 : Int32))), .unset, .unset, .unset, .unset, .unset, .unset, .unset] [(.int (i0 + (1 : Int32)))])) rfl (by rw [hml]; rfl) (ps := [.int]) (r := (some .int)) (by decide +kernel) rfl rfl (W := 0) (by show 2 * 0 + _ ≤ _; exact Nat.le_of_eq rfl) (hb hby at_13) (by decide) (by decide) (by decide) (by decide)
  have N3 := Fr.app N2 (Fr.nil n0)
  refine own_go st3 ?_
  show own_G p e below _ T3 (mkF m 16 #[.val (.int i0), .val (.int (7 : Int32)), .val (.int (((4 : Int32) + ((5 : Int32) * i0)) + (3 : Int32))), .unset, .unset, .unset, .unset, .unset, .unset, .unset] [(.int (own_el a_START a_STOP cl_START cl_STOP (i0 + (1 : Int32))))])
  have r3 : (own_el a_START a_STOP cl_START cl_STOP (i0 + (1 : Int32))) = (((4 : Int32) + ((5 : Int32) * (i0 + (1 : Int32)))) + (3 : Int32)) := by unfold own_el; rfl
  rw [r3]
  show own_G p e below _ T3 (mkF m 16 #[.val (.int i0), .val (.int (7 : Int32)), .val (.int (((4 : Int32) + ((5 : Int32) * i0)) + (3 : Int32))), .unset, .unset, .unset, .unset, .unset, .unset, .unset] [(.int (((4 : Int32) + ((5 : Int32) * (i0 + (1 : Int32)))) + (3 : Int32)))])
  refine own_go (fun t k => XS.istoreN X3.here hx rfl (hb hby at_16) rfl (l' := #[.val (.int i0), .val (.int (7 : Int32)), .val (.int (((4 : Int32) + ((5 : Int32) * i0)) + (3 : Int32))), .val (.int (((4 : Int32) + ((5 : Int32) * (i0 + (1 : Int32)))) + (3 : Int32))), .unset, .unset, .unset, .unset, .unset, .unset]) rfl k) ?_
  show own_G p e below _ T3 (mkF m 17 #[.val (.int i0), .val (.int (7 : Int32)), .val (.int (((4 : Int32) + ((5 : Int32) * i0)) + (3 : Int32))), .val (.int (((4 : Int32) + ((5 : Int32) * (i0 + (1 : Int32)))) + (3 : Int32))), .unset, .unset, .unset, .unset, .unset, .unset] [])
  refine own_go (fun t k => XS.iloadN X3.here hx rfl (hb hby at_17) rfl k) ?_
  show own_G p e below _ T3 (mkF m 18 #[.val (.int i0), .val (.int (7 : Int32)), .val (.int (((4 : Int32) + ((5 : Int32) * i0)) + (3 : Int32))), .val (.int (((4 : Int32) + ((5 : Int32) * (i0 + (1 : Int32)))) + (3 : Int32))), .unset, .unset, .unset, .unset, .unset, .unset] [(.int (7 : Int32))])
  refine own_go (fun t k => XS.bipush X3.here hx rfl (hb hby at_18) k) ?_
  show own_G p e below _ T3 (mkF m 20 #[.val (.int i0), .val (.int (7 : Int32)), .val (.int (((4 : Int32) + ((5 : Int32) * i0)) + (3 : Int32))), .val (.int (((4 : Int32) + ((5 : Int32) * (i0 + (1 : Int32)))) + (3 : Int32))), .unset, .unset, .unset, .unset, .unset, .unset] [(.int (7 : Int32)), (.int (7 : Int32))])
  refine own_go (fun t k => XS.icmpNo X3.here hx rfl (hb hby at_20) rfl (by decide) k) ?_
  show own_G p e below _ T3 (mkF m 23 #[.val (.int i0), .val (.int (7 : Int32)), .val (.int (((4 : Int32) + ((5 : Int32) * i0)) + (3 : Int32))), .val (.int (((4 : Int32) + ((5 : Int32) * (i0 + (1 : Int32)))) + (3 : Int32))), .unset, .unset, .unset, .unset, .unset, .unset] [])
  refine own_go (fun t k => XS.iconst X3.here hx rfl (hb hby at_23) k) ?_
  show own_G p e below _ T3 (mkF m 24 #[.val (.int i0), .val (.int (7 : Int32)), .val (.int (((4 : Int32) + ((5 : Int32) * i0)) + (3 : Int32))), .val (.int (((4 : Int32) + ((5 : Int32) * (i0 + (1 : Int32)))) + (3 : Int32))), .unset, .unset, .unset, .unset, .unset, .unset] [(.int (1 : Int32))])
  refine own_go (fun t k => XS.goto X3.here hx rfl (pc0 := 24) (pc' := 28) rfl (hb hby at_24) (by decide) (by decide) k) ?_
  show own_G p e below _ T3 (mkF m 28 #[.val (.int i0), .val (.int (7 : Int32)), .val (.int (((4 : Int32) + ((5 : Int32) * i0)) + (3 : Int32))), .val (.int (((4 : Int32) + ((5 : Int32) * (i0 + (1 : Int32)))) + (3 : Int32))), .unset, .unset, .unset, .unset, .unset, .unset] [(.int (1 : Int32))])
  refine own_go (fun t k => XS.istore X3.here hx rfl (hb hby at_28) rfl (l' := #[.val (.int i0), .val (.int (7 : Int32)), .val (.int (((4 : Int32) + ((5 : Int32) * i0)) + (3 : Int32))), .val (.int (((4 : Int32) + ((5 : Int32) * (i0 + (1 : Int32)))) + (3 : Int32))), .val (.int (1 : Int32)), .unset, .unset, .unset, .unset, .unset]) rfl k) ?_
  show own_G p e below _ T3 (mkF m 30 #[.val (.int i0), .val (.int (7 : Int32)), .val (.int (((4 : Int32) + ((5 : Int32) * i0)) + (3 : Int32))), .val (.int (((4 : Int32) + ((5 : Int32) * (i0 + (1 : Int32)))) + (3 : Int32))), .val (.int (1 : Int32)), .unset, .unset, .unset, .unset, .unset] [])
  refine own_go (fun t k => XS.iloadN X3.here hx rfl (hb hby at_30) rfl k) ?_
  show own_G p e below _ T3 (mkF m 31 #[.val (.int i0), .val (.int (7 : Int32)), .val (.int (((4 : Int32) + ((5 : Int32) * i0)) + (3 : Int32))), .val (.int (((4 : Int32) + ((5 : Int32) * (i0 + (1 : Int32)))) + (3 : Int32))), .val (.int (1 : Int32)), .unset, .unset, .unset, .unset, .unset] [(.int (((4 : Int32) + ((5 : Int32) * i0)) + (3 : Int32)))])
  refine own_go (fun t k => XS.iloadN X3.here hx rfl (hb hby at_31) rfl k) ?_
  show own_G p e below _ T3 (mkF m 32 #[.val (.int i0), .val (.int (7 : Int32)), .val (.int (((4 : Int32) + ((5 : Int32) * i0)) + (3 : Int32))), .val (.int (((4 : Int32) + ((5 : Int32) * (i0 + (1 : Int32)))) + (3 : Int32))), .val (.int (1 : Int32)), .unset, .unset, .unset, .unset, .unset] [(.int (7 : Int32)), (.int (((4 : Int32) + ((5 : Int32) * i0)) + (3 : Int32)))])
  refine own_go (fun t k => XS.isub X3.here hx rfl (hb hby at_32) rfl k) ?_
  show own_G p e below _ T3 (mkF m 33 #[.val (.int i0), .val (.int (7 : Int32)), .val (.int (((4 : Int32) + ((5 : Int32) * i0)) + (3 : Int32))), .val (.int (((4 : Int32) + ((5 : Int32) * (i0 + (1 : Int32)))) + (3 : Int32))), .val (.int (1 : Int32)), .unset, .unset, .unset, .unset, .unset] [(.int ((((4 : Int32) + ((5 : Int32) * i0)) + (3 : Int32)) - (7 : Int32)))])
  refine own_go (fun t k => XS.iconst X3.here hx rfl (hb hby at_33) k) ?_
  show own_G p e below _ T3 (mkF m 34 #[.val (.int i0), .val (.int (7 : Int32)), .val (.int (((4 : Int32) + ((5 : Int32) * i0)) + (3 : Int32))), .val (.int (((4 : Int32) + ((5 : Int32) * (i0 + (1 : Int32)))) + (3 : Int32))), .val (.int (1 : Int32)), .unset, .unset, .unset, .unset, .unset] [(.int (5 : Int32)), (.int ((((4 : Int32) + ((5 : Int32) * i0)) + (3 : Int32)) - (7 : Int32)))])
  refine own_go (fun t k => XS.iloadN X3.here hx rfl (hb hby at_34) rfl k) ?_
  show own_G p e below _ T3 (mkF m 35 #[.val (.int i0), .val (.int (7 : Int32)), .val (.int (((4 : Int32) + ((5 : Int32) * i0)) + (3 : Int32))), .val (.int (((4 : Int32) + ((5 : Int32) * (i0 + (1 : Int32)))) + (3 : Int32))), .val (.int (1 : Int32)), .unset, .unset, .unset, .unset, .unset] [(.int i0), (.int (5 : Int32)), (.int ((((4 : Int32) + ((5 : Int32) * i0)) + (3 : Int32)) - (7 : Int32)))])
  refine own_go (fun t k => XS.imul X3.here hx rfl (hb hby at_35) rfl k) ?_
  show own_G p e below _ T3 (mkF m 36 #[.val (.int i0), .val (.int (7 : Int32)), .val (.int (((4 : Int32) + ((5 : Int32) * i0)) + (3 : Int32))), .val (.int (((4 : Int32) + ((5 : Int32) * (i0 + (1 : Int32)))) + (3 : Int32))), .val (.int (1 : Int32)), .unset, .unset, .unset, .unset, .unset] [(.int ((5 : Int32) * i0)), (.int ((((4 : Int32) + ((5 : Int32) * i0)) + (3 : Int32)) - (7 : Int32)))])
  refine own_go (fun t k => XS.icmpNo X3.here hx rfl (hb hby at_36) rfl (Jvm.Free.XT.ii_ne_f (own_hA i0)) k) ?_
  show own_G p e below _ T3 (mkF m 39 #[.val (.int i0), .val (.int (7 : Int32)), .val (.int (((4 : Int32) + ((5 : Int32) * i0)) + (3 : Int32))), .val (.int (((4 : Int32) + ((5 : Int32) * (i0 + (1 : Int32)))) + (3 : Int32))), .val (.int (1 : Int32)), .unset, .unset, .unset, .unset, .unset] [])
  refine own_go (fun t k => XS.iconst X3.here hx rfl (hb hby at_39) k) ?_
  show own_G p e below _ T3 (mkF m 40 #[.val (.int i0), .val (.int (7 : Int32)), .val (.int (((4 : Int32) + ((5 : Int32) * i0)) + (3 : Int32))), .val (.int (((4 : Int32) + ((5 : Int32) * (i0 + (1 : Int32)))) + (3 : Int32))), .val (.int (1 : Int32)), .unset, .unset, .unset, .unset, .unset] [(.int (1 : Int32))])
  refine own_go (fun t k => XS.goto X3.here hx rfl (pc0 := 40) (pc' := 44) rfl (hb hby at_40) (by decide) (by decide) k) ?_
  show own_G p e below _ T3 (mkF m 44 #[.val (.int i0), .val (.int (7 : Int32)), .val (.int (((4 : Int32) + ((5 : Int32) * i0)) + (3 : Int32))), .val (.int (((4 : Int32) + ((5 : Int32) * (i0 + (1 : Int32)))) + (3 : Int32))), .val (.int (1 : Int32)), .unset, .unset, .unset, .unset, .unset] [(.int (1 : Int32))])
  refine own_go (fun t k => XS.istore X3.here hx rfl (hb hby at_44) rfl (l' := #[.val (.int i0), .val (.int (7 : Int32)), .val (.int (((4 : Int32) + ((5 : Int32) * i0)) + (3 : Int32))), .val (.int (((4 : Int32) + ((5 : Int32) * (i0 + (1 : Int32)))) + (3 : Int32))), .val (.int (1 : Int32)), .val (.int (1 : Int32)), .unset, .unset, .unset, .unset]) rfl k) ?_
  show own_G p e below _ T3 (mkF m 46 #[.val (.int i0), .val (.int (7 : Int32)), .val (.int (((4 : Int32) + ((5 : Int32) * i0)) + (3 : Int32))), .val (.int (((4 : Int32) + ((5 : Int32) * (i0 + (1 : Int32)))) + (3 : Int32))), .val (.int (1 : Int32)), .val (.int (1 : Int32)), .unset, .unset, .unset, .unset] [])
  refine own_go (fun t k => XS.iloadN X3.here hx rfl (hb hby at_46) rfl k) ?_
  show own_G p e below _ T3 (mkF m 47 #[.val (.int i0), .val (.int (7 : Int32)), .val (.int (((4 : Int32) + ((5 : Int32) * i0)) + (3 : Int32))), .val (.int (((4 : Int32) + ((5 : Int32) * (i0 + (1 : Int32)))) + (3 : Int32))), .val (.int (1 : Int32)), .val (.int (1 : Int32)), .unset, .unset, .unset, .unset] [(.int (((4 : Int32) + ((5 : Int32) * (i0 + (1 : Int32)))) + (3 : Int32)))])
  refine own_go (fun t k => XS.iloadN X3.here hx rfl (hb hby at_47) rfl k) ?_
  show own_G p e below _ T3 (mkF m 48 #[.val (.int i0), .val (.int (7 : Int32)), .val (.int (((4 : Int32) + ((5 : Int32) * i0)) + (3 : Int32))), .val (.int (((4 : Int32) + ((5 : Int32) * (i0 + (1 : Int32)))) + (3 : Int32))), .val (.int (1 : Int32)), .val (.int (1 : Int32)), .unset, .unset, .unset, .unset] [(.int (((4 : Int32) + ((5 : Int32) * i0)) + (3 : Int32))), (.int (((4 : Int32) + ((5 : Int32) * (i0 + (1 : Int32)))) + (3 : Int32)))])
  refine own_go (fun t k => XS.isub X3.here hx rfl (hb hby at_48) rfl k) ?_
  show own_G p e below _ T3 (mkF m 49 #[.val (.int i0), .val (.int (7 : Int32)), .val (.int (((4 : Int32) + ((5 : Int32) * i0)) + (3 : Int32))), .val (.int (((4 : Int32) + ((5 : Int32) * (i0 + (1 : Int32)))) + (3 : Int32))), .val (.int (1 : Int32)), .val (.int (1 : Int32)), .unset, .unset, .unset, .unset] [(.int ((((4 : Int32) + ((5 : Int32) * (i0 + (1 : Int32)))) + (3 : Int32)) - (((4 : Int32) + ((5 : Int32) * i0)) + (3 : Int32))))])
  refine own_go (fun t k => XS.iconst X3.here hx rfl (hb hby at_49) k) ?_
  show own_G p e below _ T3 (mkF m 50 #[.val (.int i0), .val (.int (7 : Int32)), .val (.int (((4 : Int32) + ((5 : Int32) * i0)) + (3 : Int32))), .val (.int (((4 : Int32) + ((5 : Int32) * (i0 + (1 : Int32)))) + (3 : Int32))), .val (.int (1 : Int32)), .val (.int (1 : Int32)), .unset, .unset, .unset, .unset] [(.int (5 : Int32)), (.int ((((4 : Int32) + ((5 : Int32) * (i0 + (1 : Int32)))) + (3 : Int32)) - (((4 : Int32) + ((5 : Int32) * i0)) + (3 : Int32))))])
  refine own_go (fun t k => XS.icmpNo X3.here hx rfl (hb hby at_50) rfl (Jvm.Free.XT.ii_ne_f (own_hB i0)) k) ?_
  show own_G p e below _ T3 (mkF m 53 #[.val (.int i0), .val (.int (7 : Int32)), .val (.int (((4 : Int32) + ((5 : Int32) * i0)) + (3 : Int32))), .val (.int (((4 : Int32) + ((5 : Int32) * (i0 + (1 : Int32)))) + (3 : Int32))), .val (.int (1 : Int32)), .val (.int (1 : Int32)), .unset, .unset, .unset, .unset] [])
  refine own_go (fun t k => XS.iconst X3.here hx rfl (hb hby at_53) k) ?_
  show own_G p e below _ T3 (mkF m 54 #[.val (.int i0), .val (.int (7 : Int32)), .val (.int (((4 : Int32) + ((5 : Int32) * i0)) + (3 : Int32))), .val (.int (((4 : Int32) + ((5 : Int32) * (i0 + (1 : Int32)))) + (3 : Int32))), .val (.int (1 : Int32)), .val (.int (1 : Int32)), .unset, .unset, .unset, .unset] [(.int (1 : Int32))])
  refine own_go (fun t k => XS.goto X3.here hx rfl (pc0 := 54) (pc' := 58) rfl (hb hby at_54) (by decide) (by decide) k) ?_
  show own_G p e below _ T3 (mkF m 58 #[.val (.int i0), .val (.int (7 : Int32)), .val (.int (((4 : Int32) + ((5 : Int32) * i0)) + (3 : Int32))), .val (.int (((4 : Int32) + ((5 : Int32) * (i0 + (1 : Int32)))) + (3 : Int32))), .val (.int (1 : Int32)), .val (.int (1 : Int32)), .unset, .unset, .unset, .unset] [(.int (1 : Int32))])
  refine own_go (fun t k => XS.istore X3.here hx rfl (hb hby at_58) rfl (l' := #[.val (.int i0), .val (.int (7 : Int32)), .val (.int (((4 : Int32) + ((5 : Int32) * i0)) + (3 : Int32))), .val (.int (((4 : Int32) + ((5 : Int32) * (i0 + (1 : Int32)))) + (3 : Int32))), .val (.int (1 : Int32)), .val (.int (1 : Int32)), .val (.int (1 : Int32)), .unset, .unset, .unset]) rfl k) ?_
  show own_G p e below _ T3 (mkF m 60 #[.val (.int i0), .val (.int (7 : Int32)), .val (.int (((4 : Int32) + ((5 : Int32) * i0)) + (3 : Int32))), .val (.int (((4 : Int32) + ((5 : Int32) * (i0 + (1 : Int32)))) + (3 : Int32))), .val (.int (1 : Int32)), .val (.int (1 : Int32)), .val (.int (1 : Int32)), .unset, .unset, .unset] [])
  refine own_go (fun t k => XS.iloadN X3.here hx rfl (hb hby at_60) rfl k) ?_
  show own_G p e below _ T3 (mkF m 61 #[.val (.int i0), .val (.int (7 : Int32)), .val (.int (((4 : Int32) + ((5 : Int32) * i0)) + (3 : Int32))), .val (.int (((4 : Int32) + ((5 : Int32) * (i0 + (1 : Int32)))) + (3 : Int32))), .val (.int (1 : Int32)), .val (.int (1 : Int32)), .val (.int (1 : Int32)), .unset, .unset, .unset] [(.int i0)])
  refine own_go (fun t k => XS.bipush X3.here hx rfl (hb hby at_61) k) ?_
  show own_G p e below _ T3 (mkF m 63 #[.val (.int i0), .val (.int (7 : Int32)), .val (.int (((4 : Int32) + ((5 : Int32) * i0)) + (3 : Int32))), .val (.int (((4 : Int32) + ((5 : Int32) * (i0 + (1 : Int32)))) + (3 : Int32))), .val (.int (1 : Int32)), .val (.int (1 : Int32)), .val (.int (1 : Int32)), .unset, .unset, .unset] [(.int (-2 : Int32)), (.int i0)])
  refine own_go (fun t k => XS.iand X3.here hx rfl (hb hby at_63) rfl k) ?_
  show own_G p e below _ T3 (mkF m 64 #[.val (.int i0), .val (.int (7 : Int32)), .val (.int (((4 : Int32) + ((5 : Int32) * i0)) + (3 : Int32))), .val (.int (((4 : Int32) + ((5 : Int32) * (i0 + (1 : Int32)))) + (3 : Int32))), .val (.int (1 : Int32)), .val (.int (1 : Int32)), .val (.int (1 : Int32)), .unset, .unset, .unset] [(.int (i0 &&& (-2 : Int32)))])
  refine own_go (fun t k => XS.istore X3.here hx rfl (hb hby at_64) rfl (l' := #[.val (.int i0), .val (.int (7 : Int32)), .val (.int (((4 : Int32) + ((5 : Int32) * i0)) + (3 : Int32))), .val (.int (((4 : Int32) + ((5 : Int32) * (i0 + (1 : Int32)))) + (3 : Int32))), .val (.int (1 : Int32)), .val (.int (1 : Int32)), .val (.int (1 : Int32)), .val (.int (i0 &&& (-2 : Int32))), .unset, .unset]) rfl k) ?_
  show own_G p e below _ T3 (mkF m 66 #[.val (.int i0), .val (.int (7 : Int32)), .val (.int (((4 : Int32) + ((5 : Int32) * i0)) + (3 : Int32))), .val (.int (((4 : Int32) + ((5 : Int32) * (i0 + (1 : Int32)))) + (3 : Int32))), .val (.int (1 : Int32)), .val (.int (1 : Int32)), .val (.int (1 : Int32)), .val (.int (i0 &&& (-2 : Int32))), .unset, .unset] [])
  refine own_go (fun t k => XS.iload X3.here hx rfl (hb hby at_66) rfl k) ?_
  show own_G p e below _ T3 (mkF m 68 #[.val (.int i0), .val (.int (7 : Int32)), .val (.int (((4 : Int32) + ((5 : Int32) * i0)) + (3 : Int32))), .val (.int (((4 : Int32) + ((5 : Int32) * (i0 + (1 : Int32)))) + (3 : Int32))), .val (.int (1 : Int32)), .val (.int (1 : Int32)), .val (.int (1 : Int32)), .val (.int (i0 &&& (-2 : Int32))), .unset, .unset] [(.int (i0 &&& (-2 : Int32)))])
  obtain ⟨T4, L4, v4, X4, ⟨rfl, rfl, q4⟩, st4⟩ := own_callS X3 hx hZ (y := (⟨"com/example/compensa/compensa/Interleaved2of5", "elements", "(I)I"⟩ : MethodName)) hown (hw _ (List.mem_of_getElem? (i := 0) rfl)) (hw _ (List.mem_of_getElem? (i := 1) rfl)) (hw _ (List.mem_of_getElem? (i := 2) rfl)) (hw _ (List.mem_of_getElem? (i := 3) rfl)) (by decide) (c_el l Z a0 hw a_START a_STOP cl_START cl_STOP (i0 &&& (-2 : Int32)) h0 B ) q3 (argsL := [(.int (i0 &&& (-2 : Int32)))]) (rest := []) (g := (mkF m 68 #[.val (.int i0), .val (.int (7 : Int32)), .val (.int (((4 : Int32) + ((5 : Int32) * i0)) + (3 : Int32))), .val (.int (((4 : Int32) + ((5 : Int32) * (i0 + (1 : Int32)))) + (3 : Int32))), .val (.int (1 : Int32)), .val (.int (1 : Int32)), .val (.int (1 : Int32)), .val (.int (i0 &&& (-2 : Int32))), .unset, .unset] [(.int (i0 &&& (-2 : Int32)))])) rfl (by rw [hml]; rfl) (ps := [.int]) (r := (some .int)) (by decide +kernel) rfl rfl (W := 0) (by show 2 * 0 + _ ≤ _; exact Nat.le_of_eq rfl) (hb hby at_68) (by decide) (by decide) (by decide) (by decide)
  have N4 := Fr.app N3 (Fr.nil n0)
  refine own_go st4 ?_
  show own_G p e below _ T4 (mkF m 71 #[.val (.int i0), .val (.int (7 : Int32)), .val (.int (((4 : Int32) + ((5 : Int32) * i0)) + (3 : Int32))), .val (.int (((4 : Int32) + ((5 : Int32) * (i0 + (1 : Int32)))) + (3 : Int32))), .val (.int (1 : Int32)), .val (.int (1 : Int32)), .val (.int (1 : Int32)), .val (.int (i0 &&& (-2 : Int32))), .unset, .unset] [(.int (own_el a_START a_STOP cl_START cl_STOP (i0 &&& (-2 : Int32))))])
  have r4 : (own_el a_START a_STOP cl_START cl_STOP (i0 &&& (-2 : Int32))) = (((4 : Int32) + ((5 : Int32) * (i0 &&& (-2 : Int32)))) + (3 : Int32)) := by unfold own_el; rfl
  rw [r4]
  show own_G p e below _ T4 (mkF m 71 #[.val (.int i0), .val (.int (7 : Int32)), .val (.int (((4 : Int32) + ((5 : Int32) * i0)) + (3 : Int32))), .val (.int (((4 : Int32) + ((5 : Int32) * (i0 + (1 : Int32)))) + (3 : Int32))), .val (.int (1 : Int32)), .val (.int (1 : Int32)), .val (.int (1 : Int32)), .val (.int (i0 &&& (-2 : Int32))), .unset, .unset] [(.int (((4 : Int32) + ((5 : Int32) * (i0 &&& (-2 : Int32)))) + (3 : Int32)))])
  refine own_go (fun t k => XS.istore X4.here hx rfl (hb hby at_71) rfl (l' := #[.val (.int i0), .val (.int (7 : Int32)), .val (.int (((4 : Int32) + ((5 : Int32) * i0)) + (3 : Int32))), .val (.int (((4 : Int32) + ((5 : Int32) * (i0 + (1 : Int32)))) + (3 : Int32))), .val (.int (1 : Int32)), .val (.int (1 : Int32)), .val (.int (1 : Int32)), .val (.int (i0 &&& (-2 : Int32))), .val (.int (((4 : Int32) + ((5 : Int32) * (i0 &&& (-2 : Int32)))) + (3 : Int32))), .unset]) rfl k) ?_
  show own_G p e below _ T4 (mkF m 73 #[.val (.int i0), .val (.int (7 : Int32)), .val (.int (((4 : Int32) + ((5 : Int32) * i0)) + (3 : Int32))), .val (.int (((4 : Int32) + ((5 : Int32) * (i0 + (1 : Int32)))) + (3 : Int32))), .val (.int (1 : Int32)), .val (.int (1 : Int32)), .val (.int (1 : Int32)), .val (.int (i0 &&& (-2 : Int32))), .val (.int (((4 : Int32) + ((5 : Int32) * (i0 &&& (-2 : Int32)))) + (3 : Int32))), .unset] [])
  refine own_go (fun t k => XS.iload X4.here hx rfl (hb hby at_73) rfl k) ?_
  show own_G p e below _ T4 (mkF m 75 #[.val (.int i0), .val (.int (7 : Int32)), .val (.int (((4 : Int32) + ((5 : Int32) * i0)) + (3 : Int32))), .val (.int (((4 : Int32) + ((5 : Int32) * (i0 + (1 : Int32)))) + (3 : Int32))), .val (.int (1 : Int32)), .val (.int (1 : Int32)), .val (.int (1 : Int32)), .val (.int (i0 &&& (-2 : Int32))), .val (.int (((4 : Int32) + ((5 : Int32) * (i0 &&& (-2 : Int32)))) + (3 : Int32))), .unset] [(.int (((4 : Int32) + ((5 : Int32) * (i0 &&& (-2 : Int32)))) + (3 : Int32)))])
  refine own_go (fun t k => XS.iconst X4.here hx rfl (hb hby at_75) k) ?_
  show own_G p e below _ T4 (mkF m 76 #[.val (.int i0), .val (.int (7 : Int32)), .val (.int (((4 : Int32) + ((5 : Int32) * i0)) + (3 : Int32))), .val (.int (((4 : Int32) + ((5 : Int32) * (i0 + (1 : Int32)))) + (3 : Int32))), .val (.int (1 : Int32)), .val (.int (1 : Int32)), .val (.int (1 : Int32)), .val (.int (i0 &&& (-2 : Int32))), .val (.int (((4 : Int32) + ((5 : Int32) * (i0 &&& (-2 : Int32)))) + (3 : Int32))), .unset] [(.int (1 : Int32)), (.int (((4 : Int32) + ((5 : Int32) * (i0 &&& (-2 : Int32)))) + (3 : Int32)))])
  refine own_go (fun t k => XS.iand X4.here hx rfl (hb hby at_76) rfl k) ?_
  show own_G p e below _ T4 (mkF m 77 #[.val (.int i0), .val (.int (7 : Int32)), .val (.int (((4 : Int32) + ((5 : Int32) * i0)) + (3 : Int32))), .val (.int (((4 : Int32) + ((5 : Int32) * (i0 + (1 : Int32)))) + (3 : Int32))), .val (.int (1 : Int32)), .val (.int (1 : Int32)), .val (.int (1 : Int32)), .val (.int (i0 &&& (-2 : Int32))), .val (.int (((4 : Int32) + ((5 : Int32) * (i0 &&& (-2 : Int32)))) + (3 : Int32))), .unset] [(.int ((((4 : Int32) + ((5 : Int32) * (i0 &&& (-2 : Int32)))) + (3 : Int32)) &&& (1 : Int32)))])
  refine own_go (fun t k => XS.iconst X4.here hx rfl (hb hby at_77) k) ?_
  show own_G p e below _ T4 (mkF m 78 #[.val (.int i0), .val (.int (7 : Int32)), .val (.int (((4 : Int32) + ((5 : Int32) * i0)) + (3 : Int32))), .val (.int (((4 : Int32) + ((5 : Int32) * (i0 + (1 : Int32)))) + (3 : Int32))), .val (.int (1 : Int32)), .val (.int (1 : Int32)), .val (.int (1 : Int32)), .val (.int (i0 &&& (-2 : Int32))), .val (.int (((4 : Int32) + ((5 : Int32) * (i0 &&& (-2 : Int32)))) + (3 : Int32))), .unset] [(.int (1 : Int32)), (.int ((((4 : Int32) + ((5 : Int32) * (i0 &&& (-2 : Int32)))) + (3 : Int32)) &&& (1 : Int32)))])
  refine own_go (fun t k => XS.icmpNo X4.here hx rfl (hb hby at_78) rfl (Jvm.Free.XT.ii_ne_f (own_hC i0)) k) ?_
  show own_G p e below _ T4 (mkF m 81 #[.val (.int i0), .val (.int (7 : Int32)), .val (.int (((4 : Int32) + ((5 : Int32) * i0)) + (3 : Int32))), .val (.int (((4 : Int32) + ((5 : Int32) * (i0 + (1 : Int32)))) + (3 : Int32))), .val (.int (1 : Int32)), .val (.int (1 : Int32)), .val (.int (1 : Int32)), .val (.int (i0 &&& (-2 : Int32))), .val (.int (((4 : Int32) + ((5 : Int32) * (i0 &&& (-2 : Int32)))) + (3 : Int32))), .unset] [])
  refine own_go (fun t k => XS.iconst X4.here hx rfl (hb hby at_81) k) ?_
  show own_G p e below _ T4 (mkF m 82 #[.val (.int i0), .val (.int (7 : Int32)), .val (.int (((4 : Int32) + ((5 : Int32) * i0)) + (3 : Int32))), .val (.int (((4 : Int32) + ((5 : Int32) * (i0 + (1 : Int32)))) + (3 : Int32))), .val (.int (1 : Int32)), .val (.int (1 : Int32)), .val (.int (1 : Int32)), .val (.int (i0 &&& (-2 : Int32))), .val (.int (((4 : Int32) + ((5 : Int32) * (i0 &&& (-2 : Int32)))) + (3 : Int32))), .unset] [(.int (1 : Int32))])
  refine own_go (fun t k => XS.goto X4.here hx rfl (pc0 := 82) (pc' := 86) rfl (hb hby at_82) (by decide) (by decide) k) ?_
  show own_G p e below _ T4 (mkF m 86 #[.val (.int i0), .val (.int (7 : Int32)), .val (.int (((4 : Int32) + ((5 : Int32) * i0)) + (3 : Int32))), .val (.int (((4 : Int32) + ((5 : Int32) * (i0 + (1 : Int32)))) + (3 : Int32))), .val (.int (1 : Int32)), .val (.int (1 : Int32)), .val (.int (1 : Int32)), .val (.int (i0 &&& (-2 : Int32))), .val (.int (((4 : Int32) + ((5 : Int32) * (i0 &&& (-2 : Int32)))) + (3 : Int32))), .unset] [(.int (1 : Int32))])
  refine own_go (fun t k => XS.istore X4.here hx rfl (hb hby at_86) rfl (l' := #[.val (.int i0), .val (.int (7 : Int32)), .val (.int (((4 : Int32) + ((5 : Int32) * i0)) + (3 : Int32))), .val (.int (((4 : Int32) + ((5 : Int32) * (i0 + (1 : Int32)))) + (3 : Int32))), .val (.int (1 : Int32)), .val (.int (1 : Int32)), .val (.int (1 : Int32)), .val (.int (i0 &&& (-2 : Int32))), .val (.int (((4 : Int32) + ((5 : Int32) * (i0 &&& (-2 : Int32)))) + (3 : Int32))), .val (.int (1 : Int32))]) rfl k) ?_
  show own_G p e below _ T4 (mkF m 88 #[.val (.int i0), .val (.int (7 : Int32)), .val (.int (((4 : Int32) + ((5 : Int32) * i0)) + (3 : Int32))), .val (.int (((4 : Int32) + ((5 : Int32) * (i0 + (1 : Int32)))) + (3 : Int32))), .val (.int (1 : Int32)), .val (.int (1 : Int32)), .val (.int (1 : Int32)), .val (.int (i0 &&& (-2 : Int32))), .val (.int (((4 : Int32) + ((5 : Int32) * (i0 &&& (-2 : Int32)))) + (3 : Int32))), .val (.int (1 : Int32))] [])
  refine own_go (fun t k => XS.iload X4.here hx rfl (hb hby at_88) rfl k) ?_
  show own_G p e below _ T4 (mkF m 90 #[.val (.int i0), .val (.int (7 : Int32)), .val (.int (((4 : Int32) + ((5 : Int32) * i0)) + (3 : Int32))), .val (.int (((4 : Int32) + ((5 : Int32) * (i0 + (1 : Int32)))) + (3 : Int32))), .val (.int (1 : Int32)), .val (.int (1 : Int32)), .val (.int (1 : Int32)), .val (.int (i0 &&& (-2 : Int32))), .val (.int (((4 : Int32) + ((5 : Int32) * (i0 &&& (-2 : Int32)))) + (3 : Int32))), .val (.int (1 : Int32))] [(.int (1 : Int32))])
  refine own_go (fun t k => XS.ifNo X4.here hx rfl (hb hby at_90) rfl (by decide) k) ?_
  show own_G p e below _ T4 (mkF m 93 #[.val (.int i0), .val (.int (7 : Int32)), .val (.int (((4 : Int32) + ((5 : Int32) * i0)) + (3 : Int32))), .val (.int (((4 : Int32) + ((5 : Int32) * (i0 + (1 : Int32)))) + (3 : Int32))), .val (.int (1 : Int32)), .val (.int (1 : Int32)), .val (.int (1 : Int32)), .val (.int (i0 &&& (-2 : Int32))), .val (.int (((4 : Int32) + ((5 : Int32) * (i0 &&& (-2 : Int32)))) + (3 : Int32))), .val (.int (1 : Int32))] [])
  refine own_go (fun t k => XS.iload X4.here hx rfl (hb hby at_93) rfl k) ?_
  show own_G p e below _ T4 (mkF m 95 #[.val (.int i0), .val (.int (7 : Int32)), .val (.int (((4 : Int32) + ((5 : Int32) * i0)) + (3 : Int32))), .val (.int (((4 : Int32) + ((5 : Int32) * (i0 + (1 : Int32)))) + (3 : Int32))), .val (.int (1 : Int32)), .val (.int (1 : Int32)), .val (.int (1 : Int32)), .val (.int (i0 &&& (-2 : Int32))), .val (.int (((4 : Int32) + ((5 : Int32) * (i0 &&& (-2 : Int32)))) + (3 : Int32))), .val (.int (1 : Int32))] [(.int (1 : Int32))])
  refine own_go (fun t k => XS.ifNo X4.here hx rfl (hb hby at_95) rfl (by decide) k) ?_
  show own_G p e below _ T4 (mkF m 98 #[.val (.int i0), .val (.int (7 : Int32)), .val (.int (((4 : Int32) + ((5 : Int32) * i0)) + (3 : Int32))), .val (.int (((4 : Int32) + ((5 : Int32) * (i0 + (1 : Int32)))) + (3 : Int32))), .val (.int (1 : Int32)), .val (.int (1 : Int32)), .val (.int (1 : Int32)), .val (.int (i0 &&& (-2 : Int32))), .val (.int (((4 : Int32) + ((5 : Int32) * (i0 &&& (-2 : Int32)))) + (3 : Int32))), .val (.int (1 : Int32))] [])
  refine own_go (fun t k => XS.iload X4.here hx rfl (hb hby at_98) rfl k) ?_
  show own_G p e below _ T4 (mkF m 100 #[.val (.int i0), .val (.int (7 : Int32)), .val (.int (((4 : Int32) + ((5 : Int32) * i0)) + (3 : Int32))), .val (.int (((4 : Int32) + ((5 : Int32) * (i0 + (1 : Int32)))) + (3 : Int32))), .val (.int (1 : Int32)), .val (.int (1 : Int32)), .val (.int (1 : Int32)), .val (.int (i0 &&& (-2 : Int32))), .val (.int (((4 : Int32) + ((5 : Int32) * (i0 &&& (-2 : Int32)))) + (3 : Int32))), .val (.int (1 : Int32))] [(.int (1 : Int32))])
  refine own_go (fun t k => XS.ifNo X4.here hx rfl (hb hby at_100) rfl (by decide) k) ?_
  show own_G p e below _ T4 (mkF m 103 #[.val (.int i0), .val (.int (7 : Int32)), .val (.int (((4 : Int32) + ((5 : Int32) * i0)) + (3 : Int32))), .val (.int (((4 : Int32) + ((5 : Int32) * (i0 + (1 : Int32)))) + (3 : Int32))), .val (.int (1 : Int32)), .val (.int (1 : Int32)), .val (.int (1 : Int32)), .val (.int (i0 &&& (-2 : Int32))), .val (.int (((4 : Int32) + ((5 : Int32) * (i0 &&& (-2 : Int32)))) + (3 : Int32))), .val (.int (1 : Int32))] [])
  refine own_go (fun t k => XS.iload X4.here hx rfl (hb hby at_103) rfl k) ?_
  show own_G p e below _ T4 (mkF m 105 #[.val (.int i0), .val (.int (7 : Int32)), .val (.int (((4 : Int32) + ((5 : Int32) * i0)) + (3 : Int32))), .val (.int (((4 : Int32) + ((5 : Int32) * (i0 + (1 : Int32)))) + (3 : Int32))), .val (.int (1 : Int32)), .val (.int (1 : Int32)), .val (.int (1 : Int32)), .val (.int (i0 &&& (-2 : Int32))), .val (.int (((4 : Int32) + ((5 : Int32) * (i0 &&& (-2 : Int32)))) + (3 : Int32))), .val (.int (1 : Int32))] [(.int (1 : Int32))])
  refine own_go (fun t k => XS.ifNo X4.here hx rfl (hb hby at_105) rfl (by decide) k) ?_
  show own_G p e below _ T4 (mkF m 108 #[.val (.int i0), .val (.int (7 : Int32)), .val (.int (((4 : Int32) + ((5 : Int32) * i0)) + (3 : Int32))), .val (.int (((4 : Int32) + ((5 : Int32) * (i0 + (1 : Int32)))) + (3 : Int32))), .val (.int (1 : Int32)), .val (.int (1 : Int32)), .val (.int (1 : Int32)), .val (.int (i0 &&& (-2 : Int32))), .val (.int (((4 : Int32) + ((5 : Int32) * (i0 &&& (-2 : Int32)))) + (3 : Int32))), .val (.int (1 : Int32))] [])
  refine own_go (fun t k => XS.iconst X4.here hx rfl (hb hby at_108) k) ?_
  show own_G p e below _ T4 (mkF m 109 #[.val (.int i0), .val (.int (7 : Int32)), .val (.int (((4 : Int32) + ((5 : Int32) * i0)) + (3 : Int32))), .val (.int (((4 : Int32) + ((5 : Int32) * (i0 + (1 : Int32)))) + (3 : Int32))), .val (.int (1 : Int32)), .val (.int (1 : Int32)), .val (.int (1 : Int32)), .val (.int (i0 &&& (-2 : Int32))), .val (.int (((4 : Int32) + ((5 : Int32) * (i0 &&& (-2 : Int32)))) + (3 : Int32))), .val (.int (1 : Int32))] [(.int (1 : Int32))])
  refine own_go (fun t k => XS.goto X4.here hx rfl (pc0 := 109) (pc' := 113) rfl (hb hby at_109) (by decide) (by decide) k) ?_
  show own_G p e below _ T4 (mkF m 113 #[.val (.int i0), .val (.int (7 : Int32)), .val (.int (((4 : Int32) + ((5 : Int32) * i0)) + (3 : Int32))), .val (.int (((4 : Int32) + ((5 : Int32) * (i0 + (1 : Int32)))) + (3 : Int32))), .val (.int (1 : Int32)), .val (.int (1 : Int32)), .val (.int (1 : Int32)), .val (.int (i0 &&& (-2 : Int32))), .val (.int (((4 : Int32) + ((5 : Int32) * (i0 &&& (-2 : Int32)))) + (3 : Int32))), .val (.int (1 : Int32))] [(.int (1 : Int32))])
  exact own_retN X4 hx hlk hret (by simp) (hb hby at_113) (by decide) (by decide) ⟨rfl, N4⟩
set_option maxRecDepth 65536 in
set_option maxHeartbeats 40000000 in
theorem comes_1 {Post : Tables → Env → Array Value → State → Outcome → State → Prop} (hpost : ∀ tb e args s v u, (limb_1_1.after args s (.returned v) u = true ∧ limb_1_2.after args s (.returned v) u = true ∧ True) → FrameEnd s (.returned v) u (Jvm.fieldLocs frame_1_writes args s ++ Jvm.arrayLocs frame_1_arrays args s ++ Jvm.staticLocs frame_1_statics s) 0 0 → Post tb e args s (.returned v) u) :
    ArmFor flags0 classFile x code maxLocals ret World_1 tables_1 room_1 Calls_1 rest_1 Pre_1 Post := by
  intro l hfl _ _ p e ha hc hk s m args below hf hA hF happ hP
  obtain ⟨hcalls, hrest, hpre⟩ := hP
  obtain ⟨-, -, -, hnamed, -, -, -, hat⟩ := (Spec.applies_iff hf).mp happ
  obtain ⟨hg, hn⟩ := and_e (Cond.before_iff.mp (show (Jvm.Cond.and given_1 narrow_1).before args s = true from hpre))
  obtain ⟨h1, hg⟩ := and_e hg
  obtain ⟨w0, rfl⟩ : ∃ w0 : Value, args = #[w0] := by
    have hs : args.size = 1 := by simpa [Cond.value, given_1] using h1
    obtain ⟨L⟩ := args
    match L, hs with
    | [w0], _ => exact ⟨w0, rfl⟩
  obtain ⟨i0, ei0⟩ := is_v hg
  obtain rfl : w0 = (.int i0) := Option.some.inj ei0
  have hw := fun d (hd : d ∈ tables_1) => atoms_spec (ws := Jvm.Cond.code x code maxLocals ret :: tables_1) hat d (List.mem_cons_of_mem _ hd)
  obtain ⟨n0, hn⟩ := and_e hn
  obtain ⟨a_START, v_START⟩ := arr_v n0
  have S_START := Sta.start v_START (Or.inr ⟨(hw _ (List.mem_of_getElem? (i := 2) rfl)), (hw _ (List.mem_of_getElem? (i := 5) rfl))⟩)
  obtain ⟨cl_START, A_START⟩ := Arr.start v_START n0
  obtain ⟨n1, hn⟩ := and_e hn
  have Z_START : cl_START.slots.size = 4 := own_len v_START A_START n1
  obtain ⟨n2, hn⟩ := and_e hn
  obtain ⟨a_STOP, v_STOP⟩ := arr_v n2
  have S_STOP := Sta.start v_STOP (Or.inr ⟨(hw _ (List.mem_of_getElem? (i := 2) rfl)), (hw _ (List.mem_of_getElem? (i := 7) rfl))⟩)
  obtain ⟨cl_STOP, A_STOP⟩ := Arr.start v_STOP n2
  have Z_STOP : cl_STOP.slots.size = 3 := own_len v_STOP A_STOP hn
  have B : own_B s s.heap a_START a_STOP cl_START cl_STOP := ⟨S_START, A_START, Z_START, S_STOP, A_STOP, Z_STOP⟩
  obtain ⟨n, o, h1, h2, h3, _, L, rfl, ⟨rfl, N⟩, hq⟩ := rm0 l s _ hw i0 a_START a_STOP cl_START cl_STOP s.heap s.heap.size (Nat.le_refl _) B tables_1 p e ha hc hk s m _ below hf ((Spec.applies_iff_loose hf).mp happ).1 ⟨rfl, State.Warmed39.refl s, rfl⟩ trivial
  refine ⟨n, _, h1, h2, h3, hpost _ _ _ _ _ _ ⟨Jvm.Cond.after_iff.mpr rfl, Jvm.Cond.after_iff.mpr (eq_i res_at (Term.int_eval (1)) rfl), trivial⟩ ⟨hq.1, hq.2.1, (hq.2.2.sift fun y hy => Or.inr (N y hy)).mono (by decide) (by decide)⟩⟩
theorem main_1_1 : Claimed_1_1 := comes_1 fun _ _ _ _ _ _ h hF => ⟨h.1, hF⟩
theorem main_1_2 : Claimed_1_2 := comes_1 fun _ _ _ _ _ _ h hF => ⟨h.2.1, hF⟩
end Jvm.Pilot.@@N@@
namespace Jvm.Pilot.@@N@@
open Jvm Jvm.ClassFile Sem Op Lib Jvm.Free Jvm.Stand Jvm.Pilot.@@N@@.Jvm.D
/-! MADE BY PROGRAM (witnessworld.py) out of the Statement's table words and the real class files: 9 classes; the members and pool entries that the words name. The judged class is class 1, her method 1. -/
namespace start1
open Jvm.ClassFile
def u (s : String) : CpInfo := .utf8 (stringToUtf16 s)
/-- a pool by its gaps: so many unusable entries, then the entry; so many at the end -/
def gap : Nat → List CpInfo → List CpInfo
  | 0, r => r
  | n + 1, r => .unusable :: gap n r
def poolList (es : List (Nat × CpInfo)) (last : Nat) : List CpInfo := es.foldr (fun e r => gap e.1 (e.2 :: r)) (gap last [])
def pool (es : List (Nat × CpInfo)) (last : Nat) : Array CpInfo := ⟨poolList es last⟩
def fileOf (pool : Array CpInfo) (this : Nat) (attrs : Array Attribute := #[]) (ms : Array MethodInfo := #[]) (fl : Nat := 33) (sup : Nat := 0) (ifs : Array Nat := #[]) (fds : Array FieldInfo := #[]) : ClassFile where
  minorVersion := 0
  majorVersion := 65
  constantPool := pool
  accessFlags := fl
  thisClass := this
  superClass := sup
  interfaces := ifs
  fields := fds
  methods := ms
  attributes := attrs
def plain (name : String) (sup : Option ClassId) : Class where
  name := name
  kind := .ordinary
  loader := none
  accessFlags := 33
  super := sup
  interfaces := #[]
  cf := none
  fields := #[]
  methods := #[]
  instanceTypes := #[]
  staticTypes := #[]
  resolved := #[]
  callSites := []
  init := .initialized
  statics := none
  mirror := none

def pool0 : Array CpInfo := pool [(5, u "<init>"), (0, u "()V"), (1, .class_ 10), (1, u "java/lang/Object")] 113

def k0m0 : Method := { name := "<init>", desc := "()V", sig := { parameters := [], returnType := none }, accessFlags := 1, code := none }
/-- java/lang/Object -/
def k0 : Class := { plain "java/lang/Object" none with
  accessFlags := 33
  interfaces := #[]
  cf := some (fileOf pool0 8 #[] #[{ accessFlags := 1, nameIndex := 5, descriptorIndex := 6, attributes := #[] }] 33 0 #[] #[])
  fields := #[]
  methods := #[k0m0]
  instanceTypes := #[]
  staticTypes := #[]
  resolved := Array.replicate 124 none
  statics := none }

def pool1 : Array CpInfo := pool [(2, .class_ 4), (1, u "java/lang/Object"), (0, u "<init>"), (0, u "()V"), (0, .methodref 8 9), (0, .class_ 10), (0, .nameAndType 11 12), (0, u "com/example/compensa/compensa/Interleaved2of5"), (0, u "elements"), (0, u "(I)I"), (0, .class_ 14), (0, u "com/example/compensa/compensa/Interleaved2of5ElementsPinLaw"), (2, u "law"), (0, u "(I)Z")] 3

def k1m0 : Method := { name := "<init>", desc := "()V", sig := { parameters := [], returnType := none }, accessFlags := 2, code := none }
def k1c1 : Code := { maxStack := 3, maxLocals := 10, code := code, exceptionTable := #[], attributes := #[] }
def k1m1 : Method := { name := "law", desc := "(I)Z", sig := { parameters := [.int], returnType := some .boolean }, accessFlags := 9, code := some k1c1 }
/-- com/example/compensa/compensa/Interleaved2of5ElementsPinLaw -/
def k1 : Class := { plain "com/example/compensa/compensa/Interleaved2of5ElementsPinLaw" (some 0) with
  accessFlags := 49
  interfaces := #[]
  cf := some (fileOf pool1 13 #[] #[{ accessFlags := 2, nameIndex := 5, descriptorIndex := 6, attributes := #[] }, { accessFlags := 9, nameIndex := 17, descriptorIndex := 18, attributes := #[] }] 49 2 #[] #[])
  fields := #[]
  methods := #[k1m0, k1m1]
  instanceTypes := #[]
  staticTypes := #[]
  resolved := Array.replicate 22 none
  statics := none }

def pool2 : Array CpInfo := pool [(2, .class_ 4), (1, u "java/lang/Object"), (0, u "<init>"), (0, u "()V"), (0, .fieldref 8 9), (0, .class_ 10), (0, .nameAndType 11 12), (0, u "com/example/compensa/compensa/Interleaved2of5"), (0, u "START"), (0, u "[I"), (0, .fieldref 8 14), (0, .nameAndType 15 12), (0, u "STOP"), (23, u "elements"), (0, u "(I)I"), (11, u "DIGITS"), (0, u "[Ljava/lang/String;"), (25, u "WIDE"), (0, u "I")] 28

def k2m0 : Method := { name := "<init>", desc := "()V", sig := { parameters := [], returnType := none }, accessFlags := 2, code := none }
def k2c1 : Code := { maxStack := 3, maxLocals := 1, code := prog_31_method_2_code, exceptionTable := #[], attributes := #[] }
def k2m1 : Method := { name := "elements", desc := "(I)I", sig := { parameters := [.int], returnType := some .int }, accessFlags := 8, code := some k2c1 }
/-- com/example/compensa/compensa/Interleaved2of5 -/
def k2 : Class := { plain "com/example/compensa/compensa/Interleaved2of5" (some 0) with
  accessFlags := 48
  interfaces := #[]
  cf := some (fileOf pool2 8 #[] #[{ accessFlags := 2, nameIndex := 5, descriptorIndex := 6, attributes := #[] }, { accessFlags := 8, nameIndex := 39, descriptorIndex := 40, attributes := #[] }] 48 2 #[] #[{ accessFlags := 24, nameIndex := 79, descriptorIndex := 80, attributes := #[] }, { accessFlags := 26, nameIndex := 52, descriptorIndex := 53, attributes := #[] }, { accessFlags := 26, nameIndex := 11, descriptorIndex := 12, attributes := #[] }, { accessFlags := 26, nameIndex := 15, descriptorIndex := 12, attributes := #[] }])
  fields := #[{ name := "WIDE", type := .int, accessFlags := 24, slot := 0, constantValue := 0 }, { name := "DIGITS", type := (.array (.object "java/lang/String")), accessFlags := 26, slot := 1, constantValue := 0 }, { name := "START", type := (.array .int), accessFlags := 26, slot := 2, constantValue := 0 }, { name := "STOP", type := (.array .int), accessFlags := 26, slot := 3, constantValue := 0 }]
  methods := #[k2m0, k2m1]
  instanceTypes := #[]
  staticTypes := #[.int, (.array (.object "java/lang/String")), (.array .int), (.array .int)]
  resolved := Array.replicate 109 none
  statics := some 0 }

def pool3 : Array CpInfo := pool [(1, u "java/lang/Cloneable"), (0, .class_ 1), (0, u "java/lang/Object"), (0, .class_ 3)] 3

/-- java/lang/Cloneable -/
def k3 : Class := { plain "java/lang/Cloneable" (some 0) with
  accessFlags := 1537
  interfaces := #[]
  cf := some (fileOf pool3 2 #[] #[] 1537 4 #[] #[])
  fields := #[]
  methods := #[]
  instanceTypes := #[]
  staticTypes := #[]
  resolved := Array.replicate 8 none
  statics := none }

def pool4 : Array CpInfo := pool [(1, u "java/io/Serializable"), (0, .class_ 1), (0, u "java/lang/Object"), (0, .class_ 3)] 3

/-- java/io/Serializable -/
def k4 : Class := { plain "java/io/Serializable" (some 0) with
  accessFlags := 1537
  interfaces := #[]
  cf := some (fileOf pool4 2 #[] #[] 1537 4 #[] #[])
  fields := #[]
  methods := #[]
  instanceTypes := #[]
  staticTypes := #[]
  resolved := Array.replicate 8 none
  statics := none }

/-- the primitive byte -/
def k5 : Class := { plain "byte" none with kind := .primitive 'B', accessFlags := 0x411 }
/-- [B -/
def k6 : Class := { plain "[B" (some 0) with kind := .array 5 .byte, interfaces := #[3, 4], accessFlags := 1041 }

/-- the primitive int -/
def k7 : Class := { plain "int" none with kind := .primitive 'I', accessFlags := 0x411 }
/-- [I -/
def k8 : Class := { plain "[I" (some 0) with kind := .array 7 .int, interfaces := #[3, 4], accessFlags := 1041 }

def heap : Heap := #[{ cls := 2, slots := #[.int 0, .null, .ref 1, .ref 2], vm := .statics 2 },
  { cls := 8, slots := #[.int 0, .int 0, .int 0, .int 0], vm := .none },
  { cls := 8, slots := #[.int 0, .int 0, .int 0], vm := .none }]
def classes : Array Class := #[k0, k1, k2, k3, k4, k5, k6, k7, k8]
def interned : List (Array UInt16 × Addr) := []
def slotsUsed : Nat := 11
def theMethod : MethodId := ⟨1, 1⟩
def args0 : Array Value := #[.int 5]
def aboutOver (below : List Frame) : State where
  vm := { classes := classes, interned := interned.toArray }
  heap := heap
  slotsUsed := slotsUsed
  threads := #[{ frames := .invoking theMethod args0 :: below }]
def below0 : List Frame := [.native { method := ⟨0, 0⟩, args := #[] }]
def about1 : State := aboutOver below0
def p0 : Program := .bare "" "" ""
def e0 : Env := launch0.env 0 0 0
theorem w_frames : about1.frames = Frame.invoking theMethod args0 :: below0 := rfl
set_option maxRecDepth 65536 in
theorem w_args : argsFit about1.vm theMethod args0 = true := by decide +kernel
set_option maxRecDepth 65536 in
theorem w_heap : heapFits about1 = true := by decide +kernel
set_option maxRecDepth 65536 in
theorem w_runnable : about1.curStatus? = some .runnable := by decide +kernel
set_option maxRecDepth 65536 in
theorem w_alone : about1.alone = true := by decide +kernel
set_option maxRecDepth 65536 in
theorem w_named : about1.methodNamed? x = some theMethod := by decide +kernel
set_option maxRecDepth 65536 in
theorem w_hears : about1.hears theMethod below0 = true := by decide +kernel
set_option maxRecDepth 65536 in
theorem w_ripe : about1.ripe theMethod args0 below0 = true := by decide +kernel
theorem w_running : about1.status = .running := rfl
set_option maxRecDepth 65536 in
theorem w_room : about1.hasRoom e0.platform room_1 = true :=
  launch0.hasRoom_least _ room_1 (by decide +kernel) (by decide +kernel) (by decide +kernel) (by decide +kernel) (by decide +kernel) (by decide +kernel)
theorem allAtoms_all (ts : List Jvm.Cond) (a : Array Jvm.Value) (st : Jvm.State) : (allAtoms ts).before a st = ts.all (fun c => c.before a st) := by
  induction ts with
  | nil => rfl
  | cons c t ih =>
    show (Jvm.Cond.and c (allAtoms t)).before a st = _
    rw [Jvm.Cond.before_and, ih, List.all_cons]
def words1 : List Jvm.Cond := Jvm.Cond.code x code maxLocals ret :: tables_1
/-- a 'code' word, met by the world's own term for the bytes: nothing is compared byte by byte -/
theorem code_word {y : MethodName} {bytes : ByteArray} {mx : Nat} {rt : Option FieldType} {a : Array Value} {s : State} {m : MethodId} {meth : Method} {c : Code} (h1 : s.methodNamed? y = some m) (h2 : s.vm.method? m = some meth) (h3 : meth.code = some c) (h4 : c.code = bytes)
    (h5 : (c.maxLocals == mx && c.exceptionTable.isEmpty && decide (c.maxStack ≤ mostOperands) && decide (meth.sig.returnType = rt) && !meth.locks && decide (parseMethodDescriptor y.desc = some meth.sig)) = true) : (Jvm.Cond.code y bytes mx rt).before a s = true := by
  simp only [Bool.and_eq_true, beq_iff_eq, Bool.not_eq_true', decide_eq_true_eq] at h5
  obtain ⟨⟨⟨⟨⟨g1, g2⟩, g3⟩, g4⟩, g5⟩, g6⟩ := h5
  simp [Cond.before, Cond.holds, Cond.value, h1, h2, h3, h4, g1, g2, g3, g4, g5, g6]
def isCode : Jvm.Cond → Bool
  | .code _ _ _ _ => true
  | _ => false
theorem all_split {L : List Jvm.Cond} {P : Jvm.Cond → Bool} (h1 : L.all (fun c => isCode c || P c) = true) (h2 : ∀ c ∈ L.filter isCode, P c = true) : L.all P = true := by
  refine List.all_eq_true.mpr fun c hc => ?_
  have h := List.all_eq_true.mp h1 c hc
  rcases Bool.eq_false_or_eq_true (isCode c) with hi | hi
  · exact h2 c (List.mem_filter.mpr ⟨hc, hi⟩)
  · simpa [hi] using h
set_option maxRecDepth 65536 in
theorem w_c0 : (Jvm.Cond.code x code maxLocals ret).before args0 about1 = true := code_word (m := ⟨1, 1⟩) (meth := k1m1) (c := k1c1) (by decide +kernel) rfl rfl rfl (by decide +kernel)
set_option maxRecDepth 65536 in
theorem w_c1 : (Jvm.Cond.code ({ cls := "com/example/compensa/compensa/Interleaved2of5", name := "elements", desc := "(I)I" } : Jvm.MethodName) prog_31_method_2_code (1 : Nat) (Option.some Jvm.ClassFile.FieldType.int)).before args0 about1 = true := code_word (m := ⟨2, 1⟩) (meth := k2m1) (c := k2c1) (by decide +kernel) rfl rfl rfl (by decide +kernel)
def codes1 : List Jvm.Cond := [Jvm.Cond.code x code maxLocals ret, Jvm.Cond.code ({ cls := "com/example/compensa/compensa/Interleaved2of5", name := "elements", desc := "(I)I" } : Jvm.MethodName) prog_31_method_2_code (1 : Nat) (Option.some Jvm.ClassFile.FieldType.int)]
set_option maxRecDepth 65536 in
theorem codes_eq : words1.filter isCode = codes1 := rfl
theorem w_codes : ∀ c ∈ words1.filter isCode, c.before args0 about1 = true := by
  rw [codes_eq]
  intro c hc
  simp only [codes1, List.mem_cons, List.not_mem_nil, or_false] at hc
  rcases hc with rfl | rfl
  · exact w_c0
  · exact w_c1
set_option maxRecDepth 65536 in
theorem w_t1 : words1.all (fun c => isCode c || c.before args0 about1) = true := by decide +kernel
theorem w_tables : (allAtoms (Jvm.Cond.code x code maxLocals ret :: tables_1)).before args0 about1 = true := by
  rw [allAtoms_all]
  show words1.all (fun c => c.before args0 about1) = true
  refine all_split ?_ w_codes
  rw [w_t1]
set_option maxRecDepth 65536 in
theorem w_case : (Jvm.Cond.and given_1 narrow_1).before args0 about1 = true := by decide +kernel
theorem w_applies : (headSpec (Jvm.Cond.code x code maxLocals ret :: tables_1) room_1).applies x e0.platform about1 = true :=
  (Spec.applies_iff w_frames).mpr ⟨w_running, w_runnable, w_alone, w_named, w_hears, w_ripe, w_room, w_tables⟩
theorem atStart : AtStart classFile x code maxLocals ret World_1 tables_1 room_1 Calls_1 rest_1 Pre_1 launch0 p0 e0 about1 theMethod args0 below0 :=
  ⟨lists_1, trivial, launch0.admits_env _ _ _, launch0.least_env, fairChoices_fair.cas, fairChoices_fair.clock, w_frames, w_args, w_heap, w_applies, trivial, trivial, w_case⟩
end start1
theorem witness_1 : WitnessClaimed_1 := ⟨start1.p0, start1.e0, start1.about1, start1.theMethod, start1.args0, start1.below0, start1.atStart⟩
end Jvm.Pilot.@@N@@
