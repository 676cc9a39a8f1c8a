import JvmDerived
import JvmDerived.Pilot.@@N@@Statement
import JvmDerived.Pilot.@@N@@Code
set_option linter.unusedVariables false
set_option linter.unusedSimpArgs false
@@BLOCK:NumsL.lean.txt@@
namespace Jvm.Pilot.@@N@@
open Jvm Jvm.ClassFile Sem Op Lib Jvm.Free Jvm.Stand Jvm.LawKit Jvm.RoadKit Bundle Jvm.Pilot.@@N@@.Jvm.D
section Own
variable {p : Program} {l : Launch} {e : Env} {R : Room} {s : State} {m : MethodId} {args : Array Value} {below : List Frame} {meth : Method} {c : Code} {T : State} {locs : List Loc} {cells slots : Nat} {Z : State} {a0 : Array Value} {h : Heap}
/-- from here the walk comes to an end that P holds of -/
def own_G (p : Program) (e : Env) (below : List Frame) (P : State → Outcome → Prop) (T : State) (g : JFrame) : Prop := ∃ t o, Steps p.tables e below (T.setTop g) t ∧ P t o
def own_P (below : List Frame) (s : State) (rm : Room) (Q : Option Value → Heap → List Loc → Prop) (t : State) (o : Outcome) : Prop := t.status = .running ∧ Ended t below o ∧ ∃ v L, o = .returned v ∧ Q v t.heap L ∧ FrameEnd s o t L rm.cells rm.slots
/-- a body's contract: over these arguments and this heap it returns, and Q holds of what it returns, the heap and the places written -/
def own_M (l : Launch) (Z : State) (y : MethodName) (code : ByteArray) (maxL : Nat) (ret : Option FieldType) (rm : Room) (as : Array Value) (h : Heap) (Q : Option Value → Heap → List Loc → Prop) : Prop :=
  ∀ ws : List Jvm.Cond, MetFree l y (head1 (Jvm.Cond.code y code maxL ret :: ws) rm) (fun a U => a = as ∧ Z.Warmed39 U.vm ∧ U.heap = h) (fun _ _ _ _ _ => True) (fun _ U o U' => ∃ v L, o = .returned v ∧ Q v U'.heap L ∧ FrameEnd U o U' L rm.cells rm.slots)
theorem own_go {P : State → Outcome → Prop} {T' : State} {g g' : JFrame} (st : ∀ t, Steps p.tables e below (T'.setTop g') t → Steps p.tables e below (T.setTop g) t) (k : own_G p e below P T' g') : own_G p e below P T g := by
  obtain ⟨t, o, h1, h2⟩ := k
  exact ⟨t, o, st t h1, h2⟩
theorem own_body {y : MethodName} {code : ByteArray} {maxL : Nat} {ret : Option FieldType} {rm : Room} {as : Array Value} {Q : Option Value → Heap → List Loc → Prop} (hn : plainName y.cls = true)
    (body : ∀ (p : Program) (e : Env) (s : State) (m : MethodId) (below : List Frame) (meth : Method) (c : Code) (T : State), p.tables.exec = Jvm.exec → c.code = code → c.maxLocals = maxL → meth.locks = false → s.vm.findClass y.cls = some m.cls → meth.sig.returnType = ret → meth.name = y.name → Z.Warmed39 s.vm → Stand p l e rm s m as below meth c T [] 0 0 → T.heap = h → own_G p e below (own_P below s rm Q) T (entryFrame m as maxL)) :
    own_M l Z y code maxL ret rm as h Q := by
  intro ws
  refine MetFree.of_bodySF (plainFor_of_name hn) hisR ?_
  intro p e s m args below meth c s₁ Bd hml0 hP hK
  obtain ⟨rfl, hZ, hh⟩ := hP
  obtain ⟨t, o, h1, h2, h3, h4⟩ := body p e s m below meth c s₁ Bd.exec Bd.bytes hml0 Bd.notSynchronized (findClass_of_methodNamed Bd.named) Bd.returns (name_of_methodNamed Bd.named Bd.method).1 hZ (Stand.of_body Bd) (by rw [← hh, Bd.state]; rfl)
  exact ⟨t, o, h1, h2, h3, h4⟩
theorem own_retI {rm : Room} {Q : Option Value → Heap → List Loc → Prop} (X : Stand p l e R s m args below meth c T locs cells slots) (hx : p.tables.exec = Jvm.exec) (hlk : meth.locks = false) (hret : meth.sig.returnType = some .int) {pc : Nat} {Ls : Array Slot} {z : Int32} {rest : List Value} (hd : decode c.code pc = .ok (.ireturn, 1)) (hc : cells ≤ rm.cells) (hs : slots ≤ rm.slots) (hQ : Q (some (.int z)) T.heap locs) :
    own_G p e below (own_P below s rm Q) T (mkF m pc Ls (.int z :: rest)) := by
  obtain ⟨fs, hr, hrun, hended, hW, hsame⟩ := X.leave (v := some (.int z)) (fun h => by rw [hret] at h; cases h) hlk
  exact ⟨_, _, retOut X hx hret rfl (Or.inl ⟨rfl, Or.inl rfl, _, rfl⟩) hd hr, hrun, hended, _, _, rfl, hQ, ⟨_, rfl⟩, hW, hsame.mono hc hs⟩
theorem own_retN {rm : Room} {Q : Option Value → Heap → List Loc → Prop} (X : Stand p l e R s m args below meth c T locs cells slots) (hx : p.tables.exec = Jvm.exec) (hlk : meth.locks = false) {t : FieldType} (hret : meth.sig.returnType = some t) (ht : t = .boolean ∨ t = .byte ∨ t = .char ∨ t = .short) {pc : Nat} {Ls : Array Slot} {z : Int32} {rest : List Value} (hd : decode c.code pc = .ok (.ireturn, 1)) (hc : cells ≤ rm.cells) (hs : slots ≤ rm.slots) (hQ : Q (some (.int (nar t z))) T.heap locs) :
    own_G p e below (own_P below s rm Q) T (mkF m pc Ls (.int z :: rest)) := by
  obtain ⟨fs, hr, hrun, hended, hW, hsame⟩ := X.leave (v := some (.int (nar t z))) (fun h => by rw [hret] at h; cases h) hlk
  exact ⟨_, _, retN X hx hret ht hd hr, hrun, hended, _, _, rfl, hQ, ⟨_, rfl⟩, hW, hsame.mono hc hs⟩
theorem own_narrow {t : FieldType} {w : Value} (hw : w.isRef = true) : narrow t w = w := by
  rcases ref_cases hw with rfl | ⟨a, rfl⟩ <;> cases t <;> rfl
theorem own_retA {rm : Room} {Q : Option Value → Heap → List Loc → Prop} (X : Stand p l e R s m args below meth c T locs cells slots) (hx : p.tables.exec = Jvm.exec) (hlk : meth.locks = false) {t : FieldType} (hret : meth.sig.returnType = some t) (ht : t.isReference = true) {pc : Nat} {Ls : Array Slot} {w : Value} {rest : List Value} (hw : w.isRef = true) (hd : decode c.code pc = .ok (.areturn, 1)) (hc : cells ≤ rm.cells) (hs : slots ≤ rm.slots) (hQ : Q (some w) T.heap locs) :
    own_G p e below (own_P below s rm Q) T (mkF m pc Ls (w :: rest)) := by
  obtain ⟨fs, hr, hrun, hended, hW, hsame⟩ := X.leave (v := some w) (fun h => by rw [hret] at h; cases h) hlk
  exact ⟨_, _, retOut X hx hret (own_narrow hw) (Or.inr (Or.inr (Or.inr (Or.inr ⟨rfl, ht, hw⟩)))) hd hr, hrun, hended, _, _, rfl, hQ, ⟨_, rfl⟩, hW, hsame.mono hc hs⟩
theorem own_ret0 {rm : Room} {Q : Option Value → Heap → List Loc → Prop} (X : Stand p l e R s m args below meth c T locs cells slots) (hx : p.tables.exec = Jvm.exec) (hlk : meth.locks = false) (hret : meth.sig.returnType = none) {pc : Nat} {Ls : Array Slot} (hd : decode c.code pc = .ok (.return_, 1)) (hc : cells ≤ rm.cells) (hs : slots ≤ rm.slots) (hQ : Q none T.heap locs) :
    own_G p e below (own_P below s rm Q) T (mkF m pc Ls []) := by
  obtain ⟨fs, hr, hrun, hended, hW, hsame⟩ := X.leave (v := none) (fun _ => rfl) hlk
  exact ⟨_, _, X.returnOut hx hret hd hr, hrun, hended, _, _, rfl, hQ, ⟨_, rfl⟩, hW, hsame.mono hc hs⟩
theorem own_callS (X : Stand p l e R s m args below meth c T locs cells slots) (hx : p.tables.exec = Jvm.exec) (hZ : Z.Warmed39 s.vm) {own : String} {index : Nat} {y : MethodName} {bytes : ByteArray} {maxL : Nat} {ret : Option FieldType} (hown : s.vm.findClass own = some m.cls)
    (w1 : (Jvm.Cond.methodLink own index y).before a0 Z = true) (w2 : (Jvm.Cond.static y).before a0 Z = true) (w3 : (Jvm.Cond.initialized y.cls).before a0 Z = true) (w4 : (Jvm.Cond.code y bytes maxL ret).before a0 Z = true) (hy : y.cls ≠ "java/lang/invoke/MethodHandle" ∧ y.cls ≠ "java/lang/invoke/VarHandle")
    {rm : Room} {argsL rest : List Value} {Q : Option Value → Heap → List Loc → Prop} (hM : own_M l Z y bytes maxL ret rm argsL.toArray h Q) (eT : T.heap = h) {g : JFrame} (hg : g.method = m) (hsize : g.locals.size = c.maxLocals) {ps : List FieldType} {r : Option FieldType} (hpd : parseMethodDescriptor y.desc = some ⟨ps, r⟩) (hpl : argsL.length = ps.length)
    (hstack : g.stack = argsL.reverse ++ rest) {W : Nat} (hW : 2 * g.monitorRoom + (rest.map fun v => v.category).sum ≤ W) (hdg : decode c.code g.pc = .ok (.invokestatic index, 3)) (hf : rm.frames + 1 ≤ R.frames) (hl : W + (maxL + 11) + rm.locals ≤ R.locals) (hc : cells + rm.cells ≤ R.cells) (hs : slots + rm.slots ≤ R.slots) :
    ∃ (T' : State) (L : List Loc) (v : Option Value), Stand p l e R s m args below meth c T' (locs ++ L) (cells + rm.cells) (slots + rm.slots) ∧ Q v T'.heap L ∧ ∀ t, Steps p.tables e below (T'.setTop { g with pc := g.pc + 3, stack := v.toList ++ rest }) t → Steps p.tables e below (T.setTop g) t := by
  obtain ⟨v, vm₁, ⟨T', L', k', n'⟩, -, X', ⟨L, hQ, e1, e2, e3⟩, st⟩ := Jvm.LawKit.callS X hx (y := y) hown (mvT hZ w1) (mvT hZ w2) (mvT hZ w3) (mvT hZ w4) hy (backOf (W := W) (hM []) hZ w4 w3 hf hl) hg hsize (argsL := argsL) (rest := rest) (lenOf hpd hpl) hstack hW hdg (fun _ _ => ⟨rfl, eT, hc, hs⟩)
  dsimp only [Pt.U, Pt.locs, Pt.cells, Pt.slots] at X' e1 e2 e3 st hQ
  subst e1 e2 e3
  exact ⟨T', L, v, X', hQ, st⟩
theorem own_callV (X : Stand p l e R s m args below meth c T locs cells slots) (hx : p.tables.exec = Jvm.exec) (hZ : Z.Warmed39 s.vm) {own C : String} {index : Nat} {y z : MethodName} {bytes : ByteArray} {maxL : Nat} {ret : Option FieldType} (hown : s.vm.findClass own = some m.cls)
    (w1 : (Jvm.Cond.methodLink own index y).before a0 Z = true) (w2 : (Jvm.Cond.declares y).before a0 Z = true) (w3 : (Jvm.Cond.selects y.cls y z).before a0 Z = true) (w3' : (Jvm.Cond.selects C y z).before a0 Z = true) (w4 : (Jvm.Cond.instanceMethod z).before a0 Z = true) (w5 : (Jvm.Cond.code z bytes maxL ret).before a0 Z = true) (w6 : (Jvm.Cond.initialized z.cls).before a0 Z = true) (hnf : NotFace s y)
    (hy : y.cls ≠ "java/lang/invoke/MethodHandle" ∧ y.cls ≠ "java/lang/invoke/VarHandle")
    {rm : Room} {a : Addr} {argsL rest : List Value} {Q : Option Value → Heap → List Loc → Prop} (hM : own_M l Z z bytes maxL ret rm (.ref a :: argsL).toArray h Q) (eT : T.heap = h) (E : Exa Z h a C) {g : JFrame} (hg : g.method = m) (hsize : g.locals.size = c.maxLocals) {ps : List FieldType} {r : Option FieldType} (hpd : parseMethodDescriptor y.desc = some ⟨ps, r⟩) (hpl : argsL.length = ps.length)
    (hstack : g.stack = argsL.reverse ++ .ref a :: rest) {W : Nat} (hW : 2 * g.monitorRoom + (rest.map fun v => v.category).sum ≤ W) (hdg : decode c.code g.pc = .ok (.invokevirtual index, 3)) (hf : rm.frames + 1 ≤ R.frames) (hl : W + (maxL + 11) + rm.locals ≤ R.locals) (hc : cells + rm.cells ≤ R.cells) (hs : slots + rm.slots ≤ R.slots) :
    ∃ (T' : State) (L : List Loc) (v : Option Value), Stand p l e R s m args below meth c T' (locs ++ L) (cells + rm.cells) (slots + rm.slots) ∧ Q v T'.heap L ∧ ∀ t, Steps p.tables e below (T'.setTop { g with pc := g.pc + 3, stack := v.toList ++ rest }) t → Steps p.tables e below (T.setTop g) t := by
  obtain ⟨cq, kq, qa, qb, qc⟩ := isOf hZ eT E
  obtain ⟨v, vm₁, ⟨T', L', k', n'⟩, -, X', ⟨L, hQ, e1, e2, e3⟩, st⟩ := X.virtualBack hx (y := y) (z := z) hown (mvT hZ w1) (mvT hZ w2) hnf (mvT hZ w3') (mvT hZ w4) hy (backOf (W := W) (hM []) hZ w5 w6 hf hl) qa qc hg hsize (Steps.refl _) (argsL := argsL) (rest := rest) (lenOf hpd hpl) hstack hW hdg (fun _ _ => ⟨rfl, eT, hc, hs⟩)
  dsimp only [Pt.U, Pt.locs, Pt.cells, Pt.slots] at X' e1 e2 e3 st hQ
  subst e1 e2 e3
  exact ⟨T', L, v, X', hQ, fun t k => st.trans k⟩
theorem own_callU (X : Stand p l e R s m args below meth c T locs cells slots) (hx : p.tables.exec = Jvm.exec) (hZ : Z.Warmed39 s.vm) {own C owner : String} {index : Nat} {y z : MethodName} {bytes : ByteArray} {maxL : Nat} {ret : Option FieldType} (hown : s.vm.findClass own = some m.cls)
    (w1 : (Jvm.Cond.methodLink own index y).before a0 Z = true) (w2 : (Jvm.Cond.sameMethod y.cls owner y.name y.desc).before a0 Z = true) (w2' : (Jvm.Cond.declares ⟨owner, y.name, y.desc⟩).before a0 Z = true) (w3 : (Jvm.Cond.selects C y z).before a0 Z = true) (w4 : (Jvm.Cond.instanceMethod z).before a0 Z = true) (w5 : (Jvm.Cond.code z bytes maxL ret).before a0 Z = true) (w6 : (Jvm.Cond.initialized z.cls).before a0 Z = true)
    (hy : owner ≠ "java/lang/invoke/MethodHandle" ∧ owner ≠ "java/lang/invoke/VarHandle")
    {rm : Room} {a : Addr} {argsL rest : List Value} {Q : Option Value → Heap → List Loc → Prop} (hM : own_M l Z z bytes maxL ret rm (.ref a :: argsL).toArray h Q) (eT : T.heap = h) (E : Exa Z h a C) {g : JFrame} (hg : g.method = m) (hsize : g.locals.size = c.maxLocals) {ps : List FieldType} {r : Option FieldType} (hpd : parseMethodDescriptor y.desc = some ⟨ps, r⟩) (hpl : argsL.length = ps.length)
    (hstack : g.stack = argsL.reverse ++ .ref a :: rest) {W : Nat} (hW : 2 * g.monitorRoom + (rest.map fun v => v.category).sum ≤ W) (hdg : decode c.code g.pc = .ok (.invokevirtual index, 3)) (hf : rm.frames + 1 ≤ R.frames) (hl : W + (maxL + 11) + rm.locals ≤ R.locals) (hc : cells + rm.cells ≤ R.cells) (hs : slots + rm.slots ≤ R.slots) :
    ∃ (T' : State) (L : List Loc) (v : Option Value), Stand p l e R s m args below meth c T' (locs ++ L) (cells + rm.cells) (slots + rm.slots) ∧ Q v T'.heap L ∧ ∀ t, Steps p.tables e below (T'.setTop { g with pc := g.pc + 3, stack := v.toList ++ rest }) t → Steps p.tables e below (T.setTop g) t := by
  obtain ⟨cq, kq, qa, qb, qc⟩ := isOf hZ eT E
  obtain ⟨v, vm₁, ⟨T', L', k', n'⟩, -, X', ⟨L, hQ, e1, e2, e3⟩, st⟩ := X.virtualBackUp hx (x := y) (y := z) hown (mvT hZ w1) (mvT hZ w2) (mvT hZ w2') hy (mvT hZ w3) (mvT hZ w4) (backOf (W := W) (hM []) hZ w5 w6 hf hl) qa qc hg hsize (Steps.refl _) (argsL := argsL) (rest := rest) (lenOf hpd hpl) hstack hW hdg (fun _ _ => ⟨rfl, eT, hc, hs⟩)
  dsimp only [Pt.U, Pt.locs, Pt.cells, Pt.slots] at X' e1 e2 e3 st hQ
  subst e1 e2 e3
  exact ⟨T', L, v, X', hQ, fun t k => st.trans k⟩
theorem own_neL {i K : Int32} {k : Int} (h : ¬ i = K) (hk : K.toInt = k) : k ≠ i.toInt := fun q => h (Int32.toInt_inj.mp (by rw [hk, q]))
abbrev own_cell (cA : ClassId) (vs : Array Value) : Cell := { cls := cA, slots := vs, vm := .none }
theorem own_in {cl : Cell} {j : Int32} {n : Nat} (hs : cl.slots.size = n) (hj : ¬ (j < 0 ∨ n ≤ j.toNatClampNeg)) : ¬ (j < 0 ∨ cl.slots.size ≤ j.toNatClampNeg) := by rw [hs]; exact hj
theorem own_ext_refl (h : Heap) : Ext h h := ⟨Nat.le_refl _, fun _ _ q => q⟩
theorem own_ext_trans {h0 h h' : Heap} (E : Ext h0 h) (E' : Ext h h') : Ext h0 h' := ⟨Nat.le_trans E.1 E'.1, fun a c q => E'.2 a c (E.2 a c q)⟩
theorem own_ext_eq {h0 h h' : Heap} (E : Ext h0 h) (q : h' = h) : Ext h0 h' := q ▸ E
theorem own_acVF {v w : Value} (q : v = w) : Jvm.Free.XT.acmp .ne v w = false := by subst q; simp [Jvm.Free.XT.acmp]
theorem own_ext_wr {h0 h h' : Heap} {a : Addr} {sl : Nat} {v : Value} (E : Ext h0 h) (W : Wr h h' a sl v) (q : h0.size ≤ a) : Ext h0 h' := by
  refine ⟨by rw [W.size]; exact E.1, fun x cx hx => ?_⟩
  obtain ⟨c', e1, -, -, -, e5, -⟩ := wr_at W (E.2 x cx hx)
  rw [← e5 (Nat.ne_of_lt (Nat.lt_of_lt_of_le (Array.getElem?_eq_some_iff.mp hx).1 q))]
  exact e1
theorem own_fld {t : Term} {a : Addr} {C n d : String} {k : Int32} (ev : t.eval args Z none [] Z = some (.ref a)) (w : (Jvm.Cond.eq (.field t C n d) (.int k)).value args Z none Z [] = some true) : Fld Z Z.heap a C n d (.int k) := by
  obtain ⟨x, y, e1, e2, k1, k2⟩ := cmp_v (Or.inl w)
  obtain rfl : y = .int k := (Option.some.inj e2).symm
  obtain ⟨z, rfl⟩ := k2
  have hz := gotT (Jvm.Cond.eq_ints e1 e2) w
  rw [fld_at ev] at e1
  rw [hz] at e1
  exact Fld.start e1
theorem own_len {t : Term} {a : Addr} {cl : Cell} {ty : FieldType} {k : Int32} (ev : t.eval args Z none [] Z = some (.ref a)) (A : Arr Z Z.heap a cl ty) (w : (Jvm.Cond.eq (.length t) (.int k)).value args Z none Z [] = some true) : cl.slots.size = k.toInt.toNat := by
  obtain ⟨x, y, e1, e2, k1, k2⟩ := cmp_v (Or.inl w)
  obtain rfl : y = .int k := (Option.some.inj e2).symm
  obtain ⟨z, rfl⟩ := k2
  have hz := gotT (Jvm.Cond.eq_ints e1 e2) w
  have hA : Z.arrayAt? a = some cl := Arr.fin (Vm.Alike.refl _) A
  by_cases hl : cl.slots.size < 2 ^ 31
  · rw [len_f ev hA hl] at e1
    have h1 : cl.slots.size.toInt32 = z := Value.int.inj (Option.some.inj e1)
    rw [← hz, ← h1, len_toInt hl]
    rfl
  · simp [Term.eval, ev, hA, hl] at e1
theorem own_elemI {t : Term} {a : Addr} {cl : Cell} {ty : FieldType} {j k : Int32} (ev : t.eval args Z none [] Z = some (.ref a)) (A : Arr Z Z.heap a cl ty) (w : (Jvm.Cond.eq (.elem t (.int j)) (.int k)).value args Z none Z [] = some true) : cl.slots[j.toNatClampNeg]? = some (.int k) := by
  obtain ⟨x, y, e1, e2, k1, k2⟩ := cmp_v (Or.inl w)
  obtain rfl : y = .int k := (Option.some.inj e2).symm
  obtain ⟨z, rfl⟩ := k2
  have hz := gotT (Jvm.Cond.eq_ints e1 e2) w
  rw [← hz]
  exact (elem_in e1 ev (Term.int_eval j) A.1).2
theorem own_elemR {t u : Term} {a b : Addr} {cl : Cell} {ty : FieldType} {j : Int32} (ev : t.eval args Z none [] Z = some (.ref a)) (A : Arr Z Z.heap a cl ty) (ev' : u.eval args Z none [] Z = some (.ref b)) (w : (Jvm.Cond.eq (.elem t (.int j)) u).value args Z none Z [] = some true) : cl.slots[j.toNatClampNeg]? = some (.ref b) := by
  obtain ⟨x, y, e1, e2, k1, k2⟩ := cmp_v (Or.inl w)
  obtain rfl : y = .ref b := (Option.some.inj (ev'.symm.trans e2)).symm
  have hz := gotT (eq_R e1 e2 k2.2 rfl) w
  rw [← hz]
  exact (elem_in e1 ev (Term.int_eval j) A.1).2
theorem own_neV {a b : Int32} (h : a ≠ b) : (Value.int a) ≠ Value.int b := fun q => h (Value.int.inj q)
theorem own_acT {a b : Addr} (h : a = b) : Jvm.Free.XT.acmp .eq (.ref a) (.ref b) = true := by subst h; simp [Jvm.Free.XT.acmp]
theorem own_acF {a b : Addr} (h : a ≠ b) : Jvm.Free.XT.acmp .eq (.ref a) (.ref b) = false := by simp [Jvm.Free.XT.acmp, h]
theorem own_acnT {a b : Addr} (h : a ≠ b) : Jvm.Free.XT.acmp .ne (.ref a) (.ref b) = true := by simp [Jvm.Free.XT.acmp, h]
theorem own_acnF {a b : Addr} (h : a = b) : Jvm.Free.XT.acmp .ne (.ref a) (.ref b) = false := by subst h; simp [Jvm.Free.XT.acmp]
theorem own_mask (x : Int32) : 0 ≤ (x &&& 2147483647).toInt := by
  have := Jvm.Kit.i32_mask x 2147483647 (k := 31) (by decide) (by decide)
  omega
theorem own_rem (y n : Int32) (h0 : 0 ≤ y.toInt) (hn : 0 < n.toInt) : 0 ≤ (y % n).toInt ∧ (y % n).toInt < n.toInt := by
  rw [Int32.toInt_mod]
  exact ⟨Int.tmod_nonneg _ h0, by
    have := Int.tmod_lt_of_pos y.toInt hn
    exact this⟩
end Own
end Jvm.Pilot.@@N@@
namespace Jvm.Pilot.@@N@@
open Jvm Jvm.ClassFile Sem Op Lib Jvm.Free Jvm.Stand Jvm.LawKit Jvm.RoadKit Bundle Jvm.Pilot.@@N@@.Jvm.D
def own_B (Z : State) (h : Heap) (a_BIND a_MODIFY a_UNBIND a_ADD a_COMPARE a_SEARCH a_ABANDON a_EXTENDED a_DELETE a_MODIFY_DN : Addr) : Prop := Sta Z h "com/example/canonry/canonry/Operation" "BIND" "Lcom/example/canonry/canonry/Operation;" (.ref a_BIND) ∧ Exa Z h a_BIND "com/example/canonry/canonry/Operation" ∧ Fld Z h a_BIND "com/example/canonry/canonry/Operation" "responseTag" "I" (.int (97 : Int32)) ∧ Sta Z h "com/example/canonry/canonry/Operation" "MODIFY" "Lcom/example/canonry/canonry/Operation;" (.ref a_MODIFY) ∧ Exa Z h a_MODIFY "com/example/canonry/canonry/Operation" ∧ Fld Z h a_MODIFY "com/example/canonry/canonry/Operation" "responseTag" "I" (.int (103 : Int32)) ∧ Sta Z h "com/example/canonry/canonry/Operation" "UNBIND" "Lcom/example/canonry/canonry/Operation;" (.ref a_UNBIND) ∧ Exa Z h a_UNBIND "com/example/canonry/canonry/Operation" ∧ Fld Z h a_UNBIND "com/example/canonry/canonry/Operation" "responseTag" "I" (.int (-1 : Int32)) ∧ Sta Z h "com/example/canonry/canonry/Operation" "ADD" "Lcom/example/canonry/canonry/Operation;" (.ref a_ADD) ∧ Exa Z h a_ADD "com/example/canonry/canonry/Operation" ∧ Fld Z h a_ADD "com/example/canonry/canonry/Operation" "responseTag" "I" (.int (105 : Int32)) ∧ Sta Z h "com/example/canonry/canonry/Operation" "COMPARE" "Lcom/example/canonry/canonry/Operation;" (.ref a_COMPARE) ∧ Exa Z h a_COMPARE "com/example/canonry/canonry/Operation" ∧ Fld Z h a_COMPARE "com/example/canonry/canonry/Operation" "responseTag" "I" (.int (111 : Int32)) ∧ Sta Z h "com/example/canonry/canonry/Operation" "SEARCH" "Lcom/example/canonry/canonry/Operation;" (.ref a_SEARCH) ∧ Exa Z h a_SEARCH "com/example/canonry/canonry/Operation" ∧ Fld Z h a_SEARCH "com/example/canonry/canonry/Operation" "responseTag" "I" (.int (101 : Int32)) ∧ Sta Z h "com/example/canonry/canonry/Operation" "ABANDON" "Lcom/example/canonry/canonry/Operation;" (.ref a_ABANDON) ∧ Exa Z h a_ABANDON "com/example/canonry/canonry/Operation" ∧ Fld Z h a_ABANDON "com/example/canonry/canonry/Operation" "responseTag" "I" (.int (-1 : Int32)) ∧ Sta Z h "com/example/canonry/canonry/Operation" "EXTENDED" "Lcom/example/canonry/canonry/Operation;" (.ref a_EXTENDED) ∧ Exa Z h a_EXTENDED "com/example/canonry/canonry/Operation" ∧ Fld Z h a_EXTENDED "com/example/canonry/canonry/Operation" "responseTag" "I" (.int (120 : Int32)) ∧ Sta Z h "com/example/canonry/canonry/Operation" "DELETE" "Lcom/example/canonry/canonry/Operation;" (.ref a_DELETE) ∧ Exa Z h a_DELETE "com/example/canonry/canonry/Operation" ∧ Fld Z h a_DELETE "com/example/canonry/canonry/Operation" "responseTag" "I" (.int (107 : Int32)) ∧ Sta Z h "com/example/canonry/canonry/Operation" "MODIFY_DN" "Lcom/example/canonry/canonry/Operation;" (.ref a_MODIFY_DN) ∧ Exa Z h a_MODIFY_DN "com/example/canonry/canonry/Operation" ∧ Fld Z h a_MODIFY_DN "com/example/canonry/canonry/Operation" "responseTag" "I" (.int (109 : Int32))
theorem own_B_ext {Z : State} {h h' : Heap} {a_BIND a_MODIFY a_UNBIND a_ADD a_COMPARE a_SEARCH a_ABANDON a_EXTENDED a_DELETE a_MODIFY_DN : Addr} (E : Ext h h') (B : own_B Z h a_BIND a_MODIFY a_UNBIND a_ADD a_COMPARE a_SEARCH a_ABANDON a_EXTENDED a_DELETE a_MODIFY_DN) : own_B Z h' a_BIND a_MODIFY a_UNBIND a_ADD a_COMPARE a_SEARCH a_ABANDON a_EXTENDED a_DELETE a_MODIFY_DN := by
  obtain ⟨S_BIND, E_BIND, F_BIND_responseTag, S_MODIFY, E_MODIFY, F_MODIFY_responseTag, S_UNBIND, E_UNBIND, F_UNBIND_responseTag, S_ADD, E_ADD, F_ADD_responseTag, S_COMPARE, E_COMPARE, F_COMPARE_responseTag, S_SEARCH, E_SEARCH, F_SEARCH_responseTag, S_ABANDON, E_ABANDON, F_ABANDON_responseTag, S_EXTENDED, E_EXTENDED, F_EXTENDED_responseTag, S_DELETE, E_DELETE, F_DELETE_responseTag, S_MODIFY_DN, E_MODIFY_DN, F_MODIFY_DN_responseTag⟩ := B
  exact ⟨S_BIND.ext E, E_BIND.ext E, F_BIND_responseTag.ext E, S_MODIFY.ext E, E_MODIFY.ext E, F_MODIFY_responseTag.ext E, S_UNBIND.ext E, E_UNBIND.ext E, F_UNBIND_responseTag.ext E, S_ADD.ext E, E_ADD.ext E, F_ADD_responseTag.ext E, S_COMPARE.ext E, E_COMPARE.ext E, F_COMPARE_responseTag.ext E, S_SEARCH.ext E, E_SEARCH.ext E, F_SEARCH_responseTag.ext E, S_ABANDON.ext E, E_ABANDON.ext E, F_ABANDON_responseTag.ext E, S_EXTENDED.ext E, E_EXTENDED.ext E, F_EXTENDED_responseTag.ext E, S_DELETE.ext E, E_DELETE.ext E, F_DELETE_responseTag.ext E, S_MODIFY_DN.ext E, E_MODIFY_DN.ext E, F_MODIFY_DN_responseTag.ext E⟩
theorem own_l10 (z : Int32) (h0 : 0 ≤ z.toInt) (h1 : z.toInt ≤ 9) : z = (0 : Int32) ∨ z = (1 : Int32) ∨ z = (2 : Int32) ∨ z = (3 : Int32) ∨ z = (4 : Int32) ∨ z = (5 : Int32) ∨ z = (6 : Int32) ∨ z = (7 : Int32) ∨ z = (8 : Int32) ∨ z = (9 : Int32) := by
  simp only [← Int32.toInt_inj]
  change z.toInt = 0 ∨ z.toInt = 1 ∨ z.toInt = 2 ∨ z.toInt = 3 ∨ z.toInt = 4 ∨ z.toInt = 5 ∨ z.toInt = 6 ∨ z.toInt = 7 ∨ z.toInt = 8 ∨ z.toInt = 9
  omega
def own_pick (a_BIND a_MODIFY a_UNBIND a_ADD a_COMPARE a_SEARCH a_ABANDON a_EXTENDED a_DELETE a_MODIFY_DN : Addr) (k1 : Int32) : Addr := (if k1 = (0 : Int32) then a_BIND else (if k1 = (1 : Int32) then a_UNBIND else (if k1 = (2 : Int32) then a_SEARCH else (if k1 = (3 : Int32) then a_MODIFY else (if k1 = (4 : Int32) then a_ADD else (if k1 = (5 : Int32) then a_DELETE else (if k1 = (6 : Int32) then a_MODIFY_DN else (if k1 = (7 : Int32) then a_COMPARE else (if k1 = (8 : Int32) then a_ABANDON else a_EXTENDED)))))))))
theorem d1_0 : decode method_2_code 0 = .ok (.iload_n 0, 1) := by decide +kernel
theorem d1_1 : decode method_2_code 1 = .ok (.ifCond .ne 7, 3) := by decide +kernel
theorem d1_4 : decode method_2_code 4 = .ok (.getstatic 7, 3) := by decide +kernel
theorem d1_7 : decode method_2_code 7 = .ok (.areturn, 1) := by decide +kernel
theorem d1_8 : decode method_2_code 8 = .ok (.iload_n 0, 1) := by decide +kernel
theorem d1_9 : decode method_2_code 9 = .ok (.iconst 1, 1) := by decide +kernel
theorem d1_10 : decode method_2_code 10 = .ok (.if_icmp .ne 7, 3) := by decide +kernel
theorem d1_13 : decode method_2_code 13 = .ok (.getstatic 13, 3) := by decide +kernel
theorem d1_16 : decode method_2_code 16 = .ok (.areturn, 1) := by decide +kernel
theorem d1_17 : decode method_2_code 17 = .ok (.iload_n 0, 1) := by decide +kernel
theorem d1_18 : decode method_2_code 18 = .ok (.iconst 2, 1) := by decide +kernel
theorem d1_19 : decode method_2_code 19 = .ok (.if_icmp .ne 7, 3) := by decide +kernel
theorem d1_22 : decode method_2_code 22 = .ok (.getstatic 16, 3) := by decide +kernel
theorem d1_25 : decode method_2_code 25 = .ok (.areturn, 1) := by decide +kernel
theorem d1_26 : decode method_2_code 26 = .ok (.iload_n 0, 1) := by decide +kernel
theorem d1_27 : decode method_2_code 27 = .ok (.iconst 3, 1) := by decide +kernel
theorem d1_28 : decode method_2_code 28 = .ok (.if_icmp .ne 7, 3) := by decide +kernel
theorem d1_31 : decode method_2_code 31 = .ok (.getstatic 19, 3) := by decide +kernel
theorem d1_34 : decode method_2_code 34 = .ok (.areturn, 1) := by decide +kernel
theorem d1_35 : decode method_2_code 35 = .ok (.iload_n 0, 1) := by decide +kernel
theorem d1_36 : decode method_2_code 36 = .ok (.iconst 4, 1) := by decide +kernel
theorem d1_37 : decode method_2_code 37 = .ok (.if_icmp .ne 7, 3) := by decide +kernel
theorem d1_40 : decode method_2_code 40 = .ok (.getstatic 22, 3) := by decide +kernel
theorem d1_43 : decode method_2_code 43 = .ok (.areturn, 1) := by decide +kernel
theorem d1_44 : decode method_2_code 44 = .ok (.iload_n 0, 1) := by decide +kernel
theorem d1_45 : decode method_2_code 45 = .ok (.iconst 5, 1) := by decide +kernel
theorem d1_46 : decode method_2_code 46 = .ok (.if_icmp .ne 7, 3) := by decide +kernel
theorem d1_49 : decode method_2_code 49 = .ok (.getstatic 25, 3) := by decide +kernel
theorem d1_52 : decode method_2_code 52 = .ok (.areturn, 1) := by decide +kernel
theorem d1_53 : decode method_2_code 53 = .ok (.iload_n 0, 1) := by decide +kernel
theorem d1_54 : decode method_2_code 54 = .ok (.bipush 6, 2) := by decide +kernel
theorem d1_56 : decode method_2_code 56 = .ok (.if_icmp .ne 7, 3) := by decide +kernel
theorem d1_59 : decode method_2_code 59 = .ok (.getstatic 28, 3) := by decide +kernel
theorem d1_62 : decode method_2_code 62 = .ok (.areturn, 1) := by decide +kernel
theorem d1_63 : decode method_2_code 63 = .ok (.iload_n 0, 1) := by decide +kernel
theorem d1_64 : decode method_2_code 64 = .ok (.bipush 7, 2) := by decide +kernel
theorem d1_66 : decode method_2_code 66 = .ok (.if_icmp .ne 7, 3) := by decide +kernel
theorem d1_69 : decode method_2_code 69 = .ok (.getstatic 31, 3) := by decide +kernel
theorem d1_72 : decode method_2_code 72 = .ok (.areturn, 1) := by decide +kernel
theorem d1_73 : decode method_2_code 73 = .ok (.iload_n 0, 1) := by decide +kernel
theorem d1_74 : decode method_2_code 74 = .ok (.bipush 8, 2) := by decide +kernel
theorem d1_76 : decode method_2_code 76 = .ok (.if_icmp .ne 7, 3) := by decide +kernel
theorem d1_79 : decode method_2_code 79 = .ok (.getstatic 34, 3) := by decide +kernel
theorem d1_82 : decode method_2_code 82 = .ok (.areturn, 1) := by decide +kernel
theorem d1_83 : decode method_2_code 83 = .ok (.getstatic 37, 3) := by decide +kernel
theorem d1_86 : decode method_2_code 86 = .ok (.areturn, 1) := by decide +kernel
theorem pn_1 : plainName "com/example/canonry/canonry/OperationHasResponsePinLaw" = true := by first | (simp [plainName, overriddenIn]; done) | decide +kernel
set_option maxRecDepth 65536 in
set_option maxHeartbeats 40000000 in
theorem c_pick (l : Launch) (Z : State) (a0 : Array Value) (hw : ∀ d ∈ tables_1, d.before a0 Z = true) (a_BIND a_MODIFY a_UNBIND a_ADD a_COMPARE a_SEARCH a_ABANDON a_EXTENDED a_DELETE a_MODIFY_DN : Addr) (k1 : Int32) (h0 : Heap) (B : own_B Z h0 a_BIND a_MODIFY a_UNBIND a_ADD a_COMPARE a_SEARCH a_ABANDON a_EXTENDED a_DELETE a_MODIFY_DN) :
    own_M l Z (⟨"com/example/canonry/canonry/OperationHasResponsePinLaw", "pick", "(I)Lcom/example/canonry/canonry/Operation;"⟩ : MethodName) method_2_code 1 (some (.object "com/example/canonry/canonry/Operation")) ⟨0, 0, 0, 0⟩ #[.int k1] h0 (fun v h L => v = some (.ref (own_pick a_BIND a_MODIFY a_UNBIND a_ADD a_COMPARE a_SEARCH a_ABANDON a_EXTENDED a_DELETE a_MODIFY_DN k1)) ∧ L = [] ∧ h = h0) := by
  refine own_body pn_1 ?_
  intro p e s m below meth c T0 hx hby hml hlk hown hret hnm hZ X0 e0
  replace hown : s.vm.findClass "com/example/canonry/canonry/OperationHasResponsePinLaw" = some m.cls := hown
  replace hml : c.maxLocals = 1 := hml
  obtain ⟨S_BIND, E_BIND, F_BIND_responseTag, S_MODIFY, E_MODIFY, F_MODIFY_responseTag, S_UNBIND, E_UNBIND, F_UNBIND_responseTag, S_ADD, E_ADD, F_ADD_responseTag, S_COMPARE, E_COMPARE, F_COMPARE_responseTag, S_SEARCH, E_SEARCH, F_SEARCH_responseTag, S_ABANDON, E_ABANDON, F_ABANDON_responseTag, S_EXTENDED, E_EXTENDED, F_EXTENDED_responseTag, S_DELETE, E_DELETE, F_DELETE_responseTag, S_MODIFY_DN, E_MODIFY_DN, F_MODIFY_DN_responseTag⟩ := id B
  have ef : entryFrame m #[.int k1] 1 = (mkF m 0 #[.val (.int k1)] []) := by first | (simp [entryFrame, mkF, argsToLocals, Value.category]; done) | rfl
  rw [ef]
  refine own_go (fun t k => XS.iloadN X0.here hx rfl (hb hby d1_0) rfl k) ?_
  show own_G p e below _ T0 (mkF m 1 #[.val (.int k1)] [(.int k1)])
  by_cases hc1 : k1 = (0 : Int32)
  ·
    refine own_go (fun t k => XS.ifNo X0.here hx rfl (hb hby d1_1) rfl (Jvm.Free.XT.i0_ne_f hc1) k) ?_
    show own_G p e below _ T0 (mkF m 4 #[.val (.int k1)] [])
    obtain ⟨T2, X2, e2, st2⟩ := getS X0 hx hZ hown (host := "") (hw _ (List.mem_of_getElem? (i := 5) rfl)) Via.refl e0 S_BIND (g := (mkF m 4 #[.val (.int k1)] [])) rfl (hb hby d1_4)
    refine own_go st2 ?_
    show own_G p e below _ T2 (mkF m 7 #[.val (.int k1)] [(.ref a_BIND)])
    exact own_retA X2 hx hlk hret rfl rfl (hb hby d1_7) (by decide) (by decide) ⟨congrArg some (congrArg Value.ref (Eq.symm (show (own_pick a_BIND a_MODIFY a_UNBIND a_ADD a_COMPARE a_SEARCH a_ABANDON a_EXTENDED a_DELETE a_MODIFY_DN k1) = a_BIND from (by unfold own_pick; rw [if_pos hc1])))), rfl, e2⟩
  ·
    refine own_go (fun t k => XS.ifYes X0.here hx rfl (pc0 := 1) (pc' := 8) rfl (hb hby d1_1) rfl (Jvm.Free.XT.i0_ne_t hc1) (by decide) (by decide) k) ?_
    show own_G p e below _ T0 (mkF m 8 #[.val (.int k1)] [])
    refine own_go (fun t k => XS.iloadN X0.here hx rfl (hb hby d1_8) rfl k) ?_
    show own_G p e below _ T0 (mkF m 9 #[.val (.int k1)] [(.int k1)])
    refine own_go (fun t k => XS.iconst X0.here hx rfl (hb hby d1_9) k) ?_
    show own_G p e below _ T0 (mkF m 10 #[.val (.int k1)] [(.int (1 : Int32)), (.int k1)])
    by_cases hc3 : k1 = (1 : Int32)
    ·
      refine own_go (fun t k => XS.icmpNo X0.here hx rfl (hb hby d1_10) rfl (Jvm.Free.XT.ii_ne_f hc3) k) ?_
      show own_G p e below _ T0 (mkF m 13 #[.val (.int k1)] [])
      obtain ⟨T4, X4, e4, st4⟩ := getS X0 hx hZ hown (host := "") (hw _ (List.mem_of_getElem? (i := 17) rfl)) Via.refl e0 S_UNBIND (g := (mkF m 13 #[.val (.int k1)] [])) rfl (hb hby d1_13)
      refine own_go st4 ?_
      show own_G p e below _ T4 (mkF m 16 #[.val (.int k1)] [(.ref a_UNBIND)])
      exact own_retA X4 hx hlk hret rfl rfl (hb hby d1_16) (by decide) (by decide) ⟨congrArg some (congrArg Value.ref (Eq.symm (show (own_pick a_BIND a_MODIFY a_UNBIND a_ADD a_COMPARE a_SEARCH a_ABANDON a_EXTENDED a_DELETE a_MODIFY_DN k1) = a_UNBIND from (by unfold own_pick; rw [if_neg hc1, if_pos hc3])))), rfl, e4⟩
    ·
      refine own_go (fun t k => XS.icmpYes X0.here hx rfl (pc0 := 10) (pc' := 17) rfl (hb hby d1_10) rfl (Jvm.Free.XT.ii_ne_t hc3) (by decide) (by decide) k) ?_
      show own_G p e below _ T0 (mkF m 17 #[.val (.int k1)] [])
      refine own_go (fun t k => XS.iloadN X0.here hx rfl (hb hby d1_17) rfl k) ?_
      show own_G p e below _ T0 (mkF m 18 #[.val (.int k1)] [(.int k1)])
      refine own_go (fun t k => XS.iconst X0.here hx rfl (hb hby d1_18) k) ?_
      show own_G p e below _ T0 (mkF m 19 #[.val (.int k1)] [(.int (2 : Int32)), (.int k1)])
      by_cases hc5 : k1 = (2 : Int32)
      ·
        refine own_go (fun t k => XS.icmpNo X0.here hx rfl (hb hby d1_19) rfl (Jvm.Free.XT.ii_ne_f hc5) k) ?_
        show own_G p e below _ T0 (mkF m 22 #[.val (.int k1)] [])
        obtain ⟨T6, X6, e6, st6⟩ := getS X0 hx hZ hown (host := "") (hw _ (List.mem_of_getElem? (i := 23) rfl)) Via.refl e0 S_SEARCH (g := (mkF m 22 #[.val (.int k1)] [])) rfl (hb hby d1_22)
        refine own_go st6 ?_
        show own_G p e below _ T6 (mkF m 25 #[.val (.int k1)] [(.ref a_SEARCH)])
        exact own_retA X6 hx hlk hret rfl rfl (hb hby d1_25) (by decide) (by decide) ⟨congrArg some (congrArg Value.ref (Eq.symm (show (own_pick a_BIND a_MODIFY a_UNBIND a_ADD a_COMPARE a_SEARCH a_ABANDON a_EXTENDED a_DELETE a_MODIFY_DN k1) = a_SEARCH from (by unfold own_pick; rw [if_neg hc1, if_neg hc3, if_pos hc5])))), rfl, e6⟩
      ·
        refine own_go (fun t k => XS.icmpYes X0.here hx rfl (pc0 := 19) (pc' := 26) rfl (hb hby d1_19) rfl (Jvm.Free.XT.ii_ne_t hc5) (by decide) (by decide) k) ?_
        show own_G p e below _ T0 (mkF m 26 #[.val (.int k1)] [])
        refine own_go (fun t k => XS.iloadN X0.here hx rfl (hb hby d1_26) rfl k) ?_
        show own_G p e below _ T0 (mkF m 27 #[.val (.int k1)] [(.int k1)])
        refine own_go (fun t k => XS.iconst X0.here hx rfl (hb hby d1_27) k) ?_
        show own_G p e below _ T0 (mkF m 28 #[.val (.int k1)] [(.int (3 : Int32)), (.int k1)])
        by_cases hc7 : k1 = (3 : Int32)
        ·
          refine own_go (fun t k => XS.icmpNo X0.here hx rfl (hb hby d1_28) rfl (Jvm.Free.XT.ii_ne_f hc7) k) ?_
          show own_G p e below _ T0 (mkF m 31 #[.val (.int k1)] [])
          obtain ⟨T8, X8, e8, st8⟩ := getS X0 hx hZ hown (host := "") (hw _ (List.mem_of_getElem? (i := 15) rfl)) Via.refl e0 S_MODIFY (g := (mkF m 31 #[.val (.int k1)] [])) rfl (hb hby d1_31)
          refine own_go st8 ?_
          show own_G p e below _ T8 (mkF m 34 #[.val (.int k1)] [(.ref a_MODIFY)])
          exact own_retA X8 hx hlk hret rfl rfl (hb hby d1_34) (by decide) (by decide) ⟨congrArg some (congrArg Value.ref (Eq.symm (show (own_pick a_BIND a_MODIFY a_UNBIND a_ADD a_COMPARE a_SEARCH a_ABANDON a_EXTENDED a_DELETE a_MODIFY_DN k1) = a_MODIFY from (by unfold own_pick; rw [if_neg hc1, if_neg hc3, if_neg hc5, if_pos hc7])))), rfl, e8⟩
        ·
          refine own_go (fun t k => XS.icmpYes X0.here hx rfl (pc0 := 28) (pc' := 35) rfl (hb hby d1_28) rfl (Jvm.Free.XT.ii_ne_t hc7) (by decide) (by decide) k) ?_
          show own_G p e below _ T0 (mkF m 35 #[.val (.int k1)] [])
          refine own_go (fun t k => XS.iloadN X0.here hx rfl (hb hby d1_35) rfl k) ?_
          show own_G p e below _ T0 (mkF m 36 #[.val (.int k1)] [(.int k1)])
          refine own_go (fun t k => XS.iconst X0.here hx rfl (hb hby d1_36) k) ?_
          show own_G p e below _ T0 (mkF m 37 #[.val (.int k1)] [(.int (4 : Int32)), (.int k1)])
          by_cases hc9 : k1 = (4 : Int32)
          ·
            refine own_go (fun t k => XS.icmpNo X0.here hx rfl (hb hby d1_37) rfl (Jvm.Free.XT.ii_ne_f hc9) k) ?_
            show own_G p e below _ T0 (mkF m 40 #[.val (.int k1)] [])
            obtain ⟨T10, X10, e10, st10⟩ := getS X0 hx hZ hown (host := "") (hw _ (List.mem_of_getElem? (i := 19) rfl)) Via.refl e0 S_ADD (g := (mkF m 40 #[.val (.int k1)] [])) rfl (hb hby d1_40)
            refine own_go st10 ?_
            show own_G p e below _ T10 (mkF m 43 #[.val (.int k1)] [(.ref a_ADD)])
            exact own_retA X10 hx hlk hret rfl rfl (hb hby d1_43) (by decide) (by decide) ⟨congrArg some (congrArg Value.ref (Eq.symm (show (own_pick a_BIND a_MODIFY a_UNBIND a_ADD a_COMPARE a_SEARCH a_ABANDON a_EXTENDED a_DELETE a_MODIFY_DN k1) = a_ADD from (by unfold own_pick; rw [if_neg hc1, if_neg hc3, if_neg hc5, if_neg hc7, if_pos hc9])))), rfl, e10⟩
          ·
            refine own_go (fun t k => XS.icmpYes X0.here hx rfl (pc0 := 37) (pc' := 44) rfl (hb hby d1_37) rfl (Jvm.Free.XT.ii_ne_t hc9) (by decide) (by decide) k) ?_
            show own_G p e below _ T0 (mkF m 44 #[.val (.int k1)] [])
            refine own_go (fun t k => XS.iloadN X0.here hx rfl (hb hby d1_44) rfl k) ?_
            show own_G p e below _ T0 (mkF m 45 #[.val (.int k1)] [(.int k1)])
            refine own_go (fun t k => XS.iconst X0.here hx rfl (hb hby d1_45) k) ?_
            show own_G p e below _ T0 (mkF m 46 #[.val (.int k1)] [(.int (5 : Int32)), (.int k1)])
            by_cases hc11 : k1 = (5 : Int32)
            ·
              refine own_go (fun t k => XS.icmpNo X0.here hx rfl (hb hby d1_46) rfl (Jvm.Free.XT.ii_ne_f hc11) k) ?_
              show own_G p e below _ T0 (mkF m 49 #[.val (.int k1)] [])
              obtain ⟨T12, X12, e12, st12⟩ := getS X0 hx hZ hown (host := "") (hw _ (List.mem_of_getElem? (i := 29) rfl)) Via.refl e0 S_DELETE (g := (mkF m 49 #[.val (.int k1)] [])) rfl (hb hby d1_49)
              refine own_go st12 ?_
              show own_G p e below _ T12 (mkF m 52 #[.val (.int k1)] [(.ref a_DELETE)])
              exact own_retA X12 hx hlk hret rfl rfl (hb hby d1_52) (by decide) (by decide) ⟨congrArg some (congrArg Value.ref (Eq.symm (show (own_pick a_BIND a_MODIFY a_UNBIND a_ADD a_COMPARE a_SEARCH a_ABANDON a_EXTENDED a_DELETE a_MODIFY_DN k1) = a_DELETE from (by unfold own_pick; rw [if_neg hc1, if_neg hc3, if_neg hc5, if_neg hc7, if_neg hc9, if_pos hc11])))), rfl, e12⟩
            ·
              refine own_go (fun t k => XS.icmpYes X0.here hx rfl (pc0 := 46) (pc' := 53) rfl (hb hby d1_46) rfl (Jvm.Free.XT.ii_ne_t hc11) (by decide) (by decide) k) ?_
              show own_G p e below _ T0 (mkF m 53 #[.val (.int k1)] [])
              refine own_go (fun t k => XS.iloadN X0.here hx rfl (hb hby d1_53) rfl k) ?_
              show own_G p e below _ T0 (mkF m 54 #[.val (.int k1)] [(.int k1)])
              refine own_go (fun t k => XS.bipush X0.here hx rfl (hb hby d1_54) k) ?_
              show own_G p e below _ T0 (mkF m 56 #[.val (.int k1)] [(.int (6 : Int32)), (.int k1)])
              by_cases hc13 : k1 = (6 : Int32)
              ·
                refine own_go (fun t k => XS.icmpNo X0.here hx rfl (hb hby d1_56) rfl (Jvm.Free.XT.ii_ne_f hc13) k) ?_
                show own_G p e below _ T0 (mkF m 59 #[.val (.int k1)] [])
                obtain ⟨T14, X14, e14, st14⟩ := getS X0 hx hZ hown (host := "") (hw _ (List.mem_of_getElem? (i := 31) rfl)) Via.refl e0 S_MODIFY_DN (g := (mkF m 59 #[.val (.int k1)] [])) rfl (hb hby d1_59)
                refine own_go st14 ?_
                show own_G p e below _ T14 (mkF m 62 #[.val (.int k1)] [(.ref a_MODIFY_DN)])
                exact own_retA X14 hx hlk hret rfl rfl (hb hby d1_62) (by decide) (by decide) ⟨congrArg some (congrArg Value.ref (Eq.symm (show (own_pick a_BIND a_MODIFY a_UNBIND a_ADD a_COMPARE a_SEARCH a_ABANDON a_EXTENDED a_DELETE a_MODIFY_DN k1) = a_MODIFY_DN from (by unfold own_pick; rw [if_neg hc1, if_neg hc3, if_neg hc5, if_neg hc7, if_neg hc9, if_neg hc11, if_pos hc13])))), rfl, e14⟩
              ·
                refine own_go (fun t k => XS.icmpYes X0.here hx rfl (pc0 := 56) (pc' := 63) rfl (hb hby d1_56) rfl (Jvm.Free.XT.ii_ne_t hc13) (by decide) (by decide) k) ?_
                show own_G p e below _ T0 (mkF m 63 #[.val (.int k1)] [])
                refine own_go (fun t k => XS.iloadN X0.here hx rfl (hb hby d1_63) rfl k) ?_
                show own_G p e below _ T0 (mkF m 64 #[.val (.int k1)] [(.int k1)])
                refine own_go (fun t k => XS.bipush X0.here hx rfl (hb hby d1_64) k) ?_
                show own_G p e below _ T0 (mkF m 66 #[.val (.int k1)] [(.int (7 : Int32)), (.int k1)])
                by_cases hc15 : k1 = (7 : Int32)
                ·
                  refine own_go (fun t k => XS.icmpNo X0.here hx rfl (hb hby d1_66) rfl (Jvm.Free.XT.ii_ne_f hc15) k) ?_
                  show own_G p e below _ T0 (mkF m 69 #[.val (.int k1)] [])
                  obtain ⟨T16, X16, e16, st16⟩ := getS X0 hx hZ hown (host := "") (hw _ (List.mem_of_getElem? (i := 21) rfl)) Via.refl e0 S_COMPARE (g := (mkF m 69 #[.val (.int k1)] [])) rfl (hb hby d1_69)
                  refine own_go st16 ?_
                  show own_G p e below _ T16 (mkF m 72 #[.val (.int k1)] [(.ref a_COMPARE)])
                  exact own_retA X16 hx hlk hret rfl rfl (hb hby d1_72) (by decide) (by decide) ⟨congrArg some (congrArg Value.ref (Eq.symm (show (own_pick a_BIND a_MODIFY a_UNBIND a_ADD a_COMPARE a_SEARCH a_ABANDON a_EXTENDED a_DELETE a_MODIFY_DN k1) = a_COMPARE from (by unfold own_pick; rw [if_neg hc1, if_neg hc3, if_neg hc5, if_neg hc7, if_neg hc9, if_neg hc11, if_neg hc13, if_pos hc15])))), rfl, e16⟩
                ·
                  refine own_go (fun t k => XS.icmpYes X0.here hx rfl (pc0 := 66) (pc' := 73) rfl (hb hby d1_66) rfl (Jvm.Free.XT.ii_ne_t hc15) (by decide) (by decide) k) ?_
                  show own_G p e below _ T0 (mkF m 73 #[.val (.int k1)] [])
                  refine own_go (fun t k => XS.iloadN X0.here hx rfl (hb hby d1_73) rfl k) ?_
                  show own_G p e below _ T0 (mkF m 74 #[.val (.int k1)] [(.int k1)])
                  refine own_go (fun t k => XS.bipush X0.here hx rfl (hb hby d1_74) k) ?_
                  show own_G p e below _ T0 (mkF m 76 #[.val (.int k1)] [(.int (8 : Int32)), (.int k1)])
                  by_cases hc17 : k1 = (8 : Int32)
                  ·
                    refine own_go (fun t k => XS.icmpNo X0.here hx rfl (hb hby d1_76) rfl (Jvm.Free.XT.ii_ne_f hc17) k) ?_
                    show own_G p e below _ T0 (mkF m 79 #[.val (.int k1)] [])
                    obtain ⟨T18, X18, e18, st18⟩ := getS X0 hx hZ hown (host := "") (hw _ (List.mem_of_getElem? (i := 25) rfl)) Via.refl e0 S_ABANDON (g := (mkF m 79 #[.val (.int k1)] [])) rfl (hb hby d1_79)
                    refine own_go st18 ?_
                    show own_G p e below _ T18 (mkF m 82 #[.val (.int k1)] [(.ref a_ABANDON)])
                    exact own_retA X18 hx hlk hret rfl rfl (hb hby d1_82) (by decide) (by decide) ⟨congrArg some (congrArg Value.ref (Eq.symm (show (own_pick a_BIND a_MODIFY a_UNBIND a_ADD a_COMPARE a_SEARCH a_ABANDON a_EXTENDED a_DELETE a_MODIFY_DN k1) = a_ABANDON from (by unfold own_pick; rw [if_neg hc1, if_neg hc3, if_neg hc5, if_neg hc7, if_neg hc9, if_neg hc11, if_neg hc13, if_neg hc15, if_pos hc17])))), rfl, e18⟩
                  ·
                    refine own_go (fun t k => XS.icmpYes X0.here hx rfl (pc0 := 76) (pc' := 83) rfl (hb hby d1_76) rfl (Jvm.Free.XT.ii_ne_t hc17) (by decide) (by decide) k) ?_
                    show own_G p e below _ T0 (mkF m 83 #[.val (.int k1)] [])
                    obtain ⟨T19, X19, e19, st19⟩ := getS X0 hx hZ hown (host := "") (hw _ (List.mem_of_getElem? (i := 27) rfl)) Via.refl e0 S_EXTENDED (g := (mkF m 83 #[.val (.int k1)] [])) rfl (hb hby d1_83)
                    refine own_go st19 ?_
                    show own_G p e below _ T19 (mkF m 86 #[.val (.int k1)] [(.ref a_EXTENDED)])
                    exact own_retA X19 hx hlk hret rfl rfl (hb hby d1_86) (by decide) (by decide) ⟨congrArg some (congrArg Value.ref (Eq.symm (show (own_pick a_BIND a_MODIFY a_UNBIND a_ADD a_COMPARE a_SEARCH a_ABANDON a_EXTENDED a_DELETE a_MODIFY_DN k1) = a_EXTENDED from (by unfold own_pick; rw [if_neg hc1, if_neg hc3, if_neg hc5, if_neg hc7, if_neg hc9, if_neg hc11, if_neg hc13, if_neg hc15, if_neg hc17])))), rfl, e19⟩
def own_has  (a1 : Addr) (w1 : Int32) : Int32 := (if w1 < (0 : Int32) then (nar .boolean (0 : Int32)) else (nar .boolean (1 : Int32)))
theorem d2_0 : decode prog_6_method_4_code 0 = .ok (.aload_n 0, 1) := by decide +kernel
theorem d2_1 : decode prog_6_method_4_code 1 = .ok (.getfield 57, 3) := by decide +kernel
theorem d2_4 : decode prog_6_method_4_code 4 = .ok (.ifCond .lt 7, 3) := by decide +kernel
theorem d2_7 : decode prog_6_method_4_code 7 = .ok (.iconst 1, 1) := by decide +kernel
theorem d2_8 : decode prog_6_method_4_code 8 = .ok (.goto 4, 3) := by decide +kernel
theorem d2_11 : decode prog_6_method_4_code 11 = .ok (.iconst 0, 1) := by decide +kernel
theorem d2_12 : decode prog_6_method_4_code 12 = .ok (.ireturn, 1) := by decide +kernel
theorem pn_2 : plainName "com/example/canonry/canonry/Operation" = true := by first | (simp [plainName, overriddenIn]; done) | decide +kernel
set_option maxRecDepth 65536 in
set_option maxHeartbeats 40000000 in
theorem c_has (l : Launch) (Z : State) (a0 : Array Value) (hw : ∀ d ∈ tables_1, d.before a0 Z = true)  (a1 : Addr) (w1 : Int32) (h0 : Heap)  (F_a1_responseTag : Fld Z h0 a1 "com/example/canonry/canonry/Operation" "responseTag" "I" (.int w1)) :
    own_M l Z (⟨"com/example/canonry/canonry/Operation", "hasResponse", "()Z"⟩ : MethodName) prog_6_method_4_code 1 (some .boolean) ⟨0, 0, 0, 0⟩ #[.ref a1] h0 (fun v h L => v = some (.int (own_has a1 w1)) ∧ L = [] ∧ h = h0) := by
  refine own_body pn_2 ?_
  intro p e s m below meth c T0 hx hby hml hlk hown hret hnm hZ X0 e0
  replace hown : s.vm.findClass "com/example/canonry/canonry/Operation" = some m.cls := hown
  replace hml : c.maxLocals = 1 := hml
  have ef : entryFrame m #[.ref a1] 1 = (mkF m 0 #[.val (.ref a1)] []) := by first | (simp [entryFrame, mkF, argsToLocals, Value.category]; done) | rfl
  rw [ef]
  refine own_go (fun t k => XS.aloadN X0.here hx rfl (hb hby d2_0) rfl rfl k) ?_
  show own_G p e below _ T0 (mkF m 1 #[.val (.ref a1)] [(.ref a1)])
  obtain ⟨T1, X1, e1, st1⟩ := getF X0 hx hZ hown (host := "") (Or.inl (hw _ (List.mem_of_getElem? (i := 13) rfl))) Via.refl e0 F_a1_responseTag (g := (mkF m 1 #[.val (.ref a1)] [(.ref a1)])) rfl rfl (hb hby d2_1)
  refine own_go st1 ?_
  show own_G p e below _ T1 (mkF m 4 #[.val (.ref a1)] [(.int w1)])
  by_cases hc2 : w1 < (0 : Int32)
  ·
    refine own_go (fun t k => XS.ifYes X1.here hx rfl (pc0 := 4) (pc' := 11) rfl (hb hby d2_4) rfl (Jvm.Free.XT.i0_lt_t hc2) (by decide) (by decide) k) ?_
    show own_G p e below _ T1 (mkF m 11 #[.val (.ref a1)] [])
    refine own_go (fun t k => XS.iconst X1.here hx rfl (hb hby d2_11) k) ?_
    show own_G p e below _ T1 (mkF m 12 #[.val (.ref a1)] [(.int (0 : Int32))])
    exact own_retN X1 hx hlk hret (by simp) (hb hby d2_12) (by decide) (by decide) ⟨congrArg some (congrArg Value.int (Eq.symm (show (own_has a1 w1) = (nar .boolean (0 : Int32)) from (by unfold own_has; rw [if_pos hc2])))), rfl, e1⟩
  ·
    refine own_go (fun t k => XS.ifNo X1.here hx rfl (hb hby d2_4) rfl (Jvm.Free.XT.i0_lt_f hc2) k) ?_
    show own_G p e below _ T1 (mkF m 7 #[.val (.ref a1)] [])
    refine own_go (fun t k => XS.iconst X1.here hx rfl (hb hby d2_7) k) ?_
    show own_G p e below _ T1 (mkF m 8 #[.val (.ref a1)] [(.int (1 : Int32))])
    refine own_go (fun t k => XS.goto X1.here hx rfl (pc0 := 8) (pc' := 12) rfl (hb hby d2_8) (by decide) (by decide) k) ?_
    show own_G p e below _ T1 (mkF m 12 #[.val (.ref a1)] [(.int (1 : Int32))])
    exact own_retN X1 hx hlk hret (by simp) (hb hby d2_12) (by decide) (by decide) ⟨congrArg some (congrArg Value.int (Eq.symm (show (own_has a1 w1) = (nar .boolean (1 : Int32)) from (by unfold own_has; rw [if_neg hc2])))), rfl, e1⟩
theorem pn_0 : plainName "com/example/canonry/canonry/OperationHasResponsePinLaw" = true := by first | (simp [plainName, overriddenIn]; done) | decide +kernel
set_option maxRecDepth 65536 in
set_option maxHeartbeats 40000000 in
theorem rm0 (l : Launch) (Z : State) (a0 : Array Value) (hw : ∀ d ∈ tables_1, d.before a0 Z = true) (i0 : Int32) (a_BIND a_MODIFY a_UNBIND a_ADD a_COMPARE a_SEARCH a_ABANDON a_EXTENDED a_DELETE a_MODIFY_DN : Addr) (h0 : Heap) (n0 : Nat) (Z0 : n0 ≤ h0.size) (B : own_B Z h0 a_BIND a_MODIFY a_UNBIND a_ADD a_COMPARE a_SEARCH a_ABANDON a_EXTENDED a_DELETE a_MODIFY_DN) :
    own_M l Z x code maxLocals ret room_1 #[.int i0] h0 (fun v h L => v = some (.int 1) ∧ Fr n0 L) := by
  refine own_body pn_0 ?_
  intro p e s m below meth c T0 hx hby hml hlk hown hret hnm hZ X0 e0
  replace hown : s.vm.findClass "com/example/canonry/canonry/OperationHasResponsePinLaw" = some m.cls := hown
  replace hml : c.maxLocals = 4 := hml
  replace hret : meth.sig.returnType = some .boolean := hret
  obtain ⟨S_BIND, E_BIND, F_BIND_responseTag, S_MODIFY, E_MODIFY, F_MODIFY_responseTag, S_UNBIND, E_UNBIND, F_UNBIND_responseTag, S_ADD, E_ADD, F_ADD_responseTag, S_COMPARE, E_COMPARE, F_COMPARE_responseTag, S_SEARCH, E_SEARCH, F_SEARCH_responseTag, S_ABANDON, E_ABANDON, F_ABANDON_responseTag, S_EXTENDED, E_EXTENDED, F_EXTENDED_responseTag, S_DELETE, E_DELETE, F_DELETE_responseTag, S_MODIFY_DN, E_MODIFY_DN, F_MODIFY_DN_responseTag⟩ := id B
  have hk := own_l10 ((i0 &&& (2147483647 : Int32)) % (10 : Int32)) (own_rem _ 10 (own_mask i0) (by decide)).1 (Int.lt_add_one_iff.mp (own_rem _ 10 (own_mask i0) (by decide)).2)
  have N0 := Fr.nil n0
  have ef : entryFrame m #[.int i0] maxLocals = (mkF m 0 #[.val (.int i0), .unset, .unset, .unset] []) := by first | (simp [entryFrame, mkF, argsToLocals, Value.category, maxLocals]; done) | rfl
  rw [ef]
  refine own_go (fun t k => XS.iloadN X0.here hx rfl (hb hby at_0) rfl k) ?_
  show own_G p e below _ T0 (mkF m 1 #[.val (.int i0), .unset, .unset, .unset] [(.int i0)])
  refine own_go (X0.ldcInt hx hown (mvT hZ (hw _ (List.mem_of_getElem? (i := 0) rfl))) (g := (mkF m 1 #[.val (.int i0), .unset, .unset, .unset] [(.int i0)])) rfl (hb hby at_1)) ?_
  show own_G p e below _ T0 (mkF m 3 #[.val (.int i0), .unset, .unset, .unset] [(.int (2147483647 : Int32)), (.int i0)])
  refine own_go (fun t k => XS.iand X0.here hx rfl (hb hby at_3) rfl k) ?_
  show own_G p e below _ T0 (mkF m 4 #[.val (.int i0), .unset, .unset, .unset] [(.int (i0 &&& (2147483647 : Int32)))])
  refine own_go (fun t k => XS.bipush X0.here hx rfl (hb hby at_4) k) ?_
  show own_G p e below _ T0 (mkF m 6 #[.val (.int i0), .unset, .unset, .unset] [(.int (10 : Int32)), (.int (i0 &&& (2147483647 : Int32)))])
  refine own_go (fun t k => iremM X0 hx rfl (hb hby at_6) rfl (by decide) k) ?_
  show own_G p e below _ T0 (mkF m 7 #[.val (.int i0), .unset, .unset, .unset] [(.int ((i0 &&& (2147483647 : Int32)) % (10 : Int32)))])
  rcases hk with hk1 | hk1 | hk1 | hk1 | hk1 | hk1 | hk1 | hk1 | hk1 | hk1
  · rw [hk1]
    show own_G p e below _ T0 (mkF m 7 #[.val (.int i0), .unset, .unset, .unset] [(.int (0 : Int32))])
    refine own_go (fun t k => XS.istoreN X0.here hx rfl (hb hby at_7) rfl (l' := #[.val (.int i0), .val (.int (0 : Int32)), .unset, .unset]) rfl k) ?_
    show own_G p e below _ T0 (mkF m 8 #[.val (.int i0), .val (.int (0 : Int32)), .unset, .unset] [])
    refine own_go (fun t k => XS.iloadN X0.here hx rfl (hb hby at_8) rfl k) ?_
    show own_G p e below _ T0 (mkF m 9 #[.val (.int i0), .val (.int (0 : Int32)), .unset, .unset] [(.int (0 : Int32))])
    obtain ⟨T2, L2, v2, X2, ⟨rfl, rfl, q2⟩, st2⟩ := own_callS X0 hx hZ (y := (⟨"com/example/canonry/canonry/OperationHasResponsePinLaw", "pick", "(I)Lcom/example/canonry/canonry/Operation;"⟩ : MethodName)) hown (hw _ (List.mem_of_getElem? (i := 1) rfl)) (hw _ (List.mem_of_getElem? (i := 2) rfl)) (hw _ (List.mem_of_getElem? (i := 3) rfl)) (hw _ (List.mem_of_getElem? (i := 4) rfl)) (by decide) (c_pick l Z a0 hw a_BIND a_MODIFY a_UNBIND a_ADD a_COMPARE a_SEARCH a_ABANDON a_EXTENDED a_DELETE a_MODIFY_DN (0 : Int32) h0 B ) e0 (argsL := [(.int (0 : Int32))]) (rest := []) (g := (mkF m 9 #[.val (.int i0), .val (.int (0 : Int32)), .unset, .unset] [(.int (0 : Int32))])) rfl (by rw [hml]; rfl) (ps := [.int]) (r := (some (.object "com/example/canonry/canonry/Operation"))) (by decide +kernel) rfl rfl (W := 0) (by show 2 * 0 + _ ≤ _; exact Nat.le_of_eq rfl) (hb hby at_9) (by decide) (by decide) (by decide) (by decide)
    have N2 := Fr.app N0 (Fr.nil n0)
    refine own_go st2 ?_
    show own_G p e below _ T2 (mkF m 12 #[.val (.int i0), .val (.int (0 : Int32)), .unset, .unset] [(.ref (own_pick a_BIND a_MODIFY a_UNBIND a_ADD a_COMPARE a_SEARCH a_ABANDON a_EXTENDED a_DELETE a_MODIFY_DN (0 : Int32)))])
    have r2 : (own_pick a_BIND a_MODIFY a_UNBIND a_ADD a_COMPARE a_SEARCH a_ABANDON a_EXTENDED a_DELETE a_MODIFY_DN (0 : Int32)) = a_BIND := by unfold own_pick; rw [if_pos (show ((0 : Int32) = (0 : Int32)) by decide)]
    rw [r2]
    show own_G p e below _ T2 (mkF m 12 #[.val (.int i0), .val (.int (0 : Int32)), .unset, .unset] [(.ref a_BIND)])
    refine own_go (fun t k => XS.astoreN X2.here hx rfl (hb hby at_12) rfl rfl (l' := #[.val (.int i0), .val (.int (0 : Int32)), .val (.ref a_BIND), .unset]) rfl k) ?_
    show own_G p e below _ T2 (mkF m 13 #[.val (.int i0), .val (.int (0 : Int32)), .val (.ref a_BIND), .unset] [])
    refine own_go (fun t k => XS.iloadN X2.here hx rfl (hb hby at_13) rfl k) ?_
    show own_G p e below _ T2 (mkF m 14 #[.val (.int i0), .val (.int (0 : Int32)), .val (.ref a_BIND), .unset] [(.int (0 : Int32))])
    refine own_go (fun t k => XS.iconst X2.here hx rfl (hb hby at_14) k) ?_
    show own_G p e below _ T2 (mkF m 15 #[.val (.int i0), .val (.int (0 : Int32)), .val (.ref a_BIND), .unset] [(.int (1 : Int32)), (.int (0 : Int32))])
    refine own_go (fun t k => XS.icmpNo X2.here hx rfl (hb hby at_15) rfl (by decide) k) ?_
    show own_G p e below _ T2 (mkF m 18 #[.val (.int i0), .val (.int (0 : Int32)), .val (.ref a_BIND), .unset] [])
    refine own_go (fun t k => XS.iloadN X2.here hx rfl (hb hby at_18) rfl k) ?_
    show own_G p e below _ T2 (mkF m 19 #[.val (.int i0), .val (.int (0 : Int32)), .val (.ref a_BIND), .unset] [(.int (0 : Int32))])
    refine own_go (fun t k => XS.bipush X2.here hx rfl (hb hby at_19) k) ?_
    show own_G p e below _ T2 (mkF m 21 #[.val (.int i0), .val (.int (0 : Int32)), .val (.ref a_BIND), .unset] [(.int (8 : Int32)), (.int (0 : Int32))])
    refine own_go (fun t k => XS.icmpNo X2.here hx rfl (hb hby at_21) rfl (by decide) k) ?_
    show own_G p e below _ T2 (mkF m 24 #[.val (.int i0), .val (.int (0 : Int32)), .val (.ref a_BIND), .unset] [])
    refine own_go (fun t k => XS.iconst X2.here hx rfl (hb hby at_24) k) ?_
    show own_G p e below _ T2 (mkF m 25 #[.val (.int i0), .val (.int (0 : Int32)), .val (.ref a_BIND), .unset] [(.int (1 : Int32))])
    refine own_go (fun t k => XS.goto X2.here hx rfl (pc0 := 25) (pc' := 29) rfl (hb hby at_25) (by decide) (by decide) k) ?_
    show own_G p e below _ T2 (mkF m 29 #[.val (.int i0), .val (.int (0 : Int32)), .val (.ref a_BIND), .unset] [(.int (1 : Int32))])
    refine own_go (fun t k => XS.istoreN X2.here hx rfl (hb hby at_29) rfl (l' := #[.val (.int i0), .val (.int (0 : Int32)), .val (.ref a_BIND), .val (.int (1 : Int32))]) rfl k) ?_
    show own_G p e below _ T2 (mkF m 30 #[.val (.int i0), .val (.int (0 : Int32)), .val (.ref a_BIND), .val (.int (1 : Int32))] [])
    refine own_go (fun t k => XS.aloadN X2.here hx rfl (hb hby at_30) rfl rfl k) ?_
    show own_G p e below _ T2 (mkF m 31 #[.val (.int i0), .val (.int (0 : Int32)), .val (.ref a_BIND), .val (.int (1 : Int32))] [(.ref a_BIND)])
    obtain ⟨T3, L3, v3, X3, ⟨rfl, rfl, q3⟩, st3⟩ := own_callV X2 hx hZ (y := (⟨"com/example/canonry/canonry/Operation", "hasResponse", "()Z"⟩ : MethodName)) (z := (⟨"com/example/canonry/canonry/Operation", "hasResponse", "()Z"⟩ : MethodName)) hown (hw _ (List.mem_of_getElem? (i := 8) rfl)) (hw _ (List.mem_of_getElem? (i := 9) rfl)) (hw _ (List.mem_of_getElem? (i := 11) rfl)) (hw _ (List.mem_of_getElem? (i := 11) rfl)) (hw _ (List.mem_of_getElem? (i := 10) rfl)) (hw _ (List.mem_of_getElem? (i := 12) rfl)) (hw _ (List.mem_of_getElem? (i := 6) rfl)) (notFace_of_selects (args := #[]) (mvT hZ (hw _ (List.mem_of_getElem? (i := 11) rfl)))) (by decide) (c_has l Z a0 hw a_BIND (97 : Int32) h0  F_BIND_responseTag) q2 E_BIND (argsL := []) (rest := []) (g := (mkF m 31 #[.val (.int i0), .val (.int (0 : Int32)), .val (.ref a_BIND), .val (.int (1 : Int32))] [(.ref a_BIND)])) rfl (by rw [hml]; rfl) (ps := []) (r := (some .boolean)) (by decide +kernel) rfl rfl (W := 0) (by show 2 * 0 + _ ≤ _; exact Nat.le_of_eq rfl) (hb hby at_31) (by decide) (by decide) (by decide) (by decide)
    have N3 := Fr.app N2 (Fr.nil n0)
    refine own_go st3 ?_
    show own_G p e below _ T3 (mkF m 34 #[.val (.int i0), .val (.int (0 : Int32)), .val (.ref a_BIND), .val (.int (1 : Int32))] [(.int (own_has a_BIND (97 : Int32)))])
    have r3 : (own_has a_BIND (97 : Int32)) = (1 : Int32) := by unfold own_has; rw [if_neg (show ¬ ((97 : Int32) < (0 : Int32)) by decide)]; rfl
    rw [r3]
    show own_G p e below _ T3 (mkF m 34 #[.val (.int i0), .val (.int (0 : Int32)), .val (.ref a_BIND), .val (.int (1 : Int32))] [(.int (1 : Int32))])
    refine own_go (fun t k => XS.iloadN X3.here hx rfl (hb hby at_34) rfl k) ?_
    show own_G p e below _ T3 (mkF m 35 #[.val (.int i0), .val (.int (0 : Int32)), .val (.ref a_BIND), .val (.int (1 : Int32))] [(.int (1 : Int32)), (.int (1 : Int32))])
    refine own_go (fun t k => XS.icmpNo X3.here hx rfl (hb hby at_35) rfl (by decide) k) ?_
    show own_G p e below _ T3 (mkF m 38 #[.val (.int i0), .val (.int (0 : Int32)), .val (.ref a_BIND), .val (.int (1 : Int32))] [])
    refine own_go (fun t k => XS.iconst X3.here hx rfl (hb hby at_38) k) ?_
    show own_G p e below _ T3 (mkF m 39 #[.val (.int i0), .val (.int (0 : Int32)), .val (.ref a_BIND), .val (.int (1 : Int32))] [(.int (1 : Int32))])
    refine own_go (fun t k => XS.goto X3.here hx rfl (pc0 := 39) (pc' := 43) rfl (hb hby at_39) (by decide) (by decide) k) ?_
    show own_G p e below _ T3 (mkF m 43 #[.val (.int i0), .val (.int (0 : Int32)), .val (.ref a_BIND), .val (.int (1 : Int32))] [(.int (1 : Int32))])
    exact own_retN X3 hx hlk hret (by simp) (hb hby at_43) (by decide) (by decide) ⟨rfl, N3⟩
  · rw [hk1]
    show own_G p e below _ T0 (mkF m 7 #[.val (.int i0), .unset, .unset, .unset] [(.int (1 : Int32))])
    refine own_go (fun t k => XS.istoreN X0.here hx rfl (hb hby at_7) rfl (l' := #[.val (.int i0), .val (.int (1 : Int32)), .unset, .unset]) rfl k) ?_
    show own_G p e below _ T0 (mkF m 8 #[.val (.int i0), .val (.int (1 : Int32)), .unset, .unset] [])
    refine own_go (fun t k => XS.iloadN X0.here hx rfl (hb hby at_8) rfl k) ?_
    show own_G p e below _ T0 (mkF m 9 #[.val (.int i0), .val (.int (1 : Int32)), .unset, .unset] [(.int (1 : Int32))])
    obtain ⟨T4, L4, v4, X4, ⟨rfl, rfl, q4⟩, st4⟩ := own_callS X0 hx hZ (y := (⟨"com/example/canonry/canonry/OperationHasResponsePinLaw", "pick", "(I)Lcom/example/canonry/canonry/Operation;"⟩ : MethodName)) hown (hw _ (List.mem_of_getElem? (i := 1) rfl)) (hw _ (List.mem_of_getElem? (i := 2) rfl)) (hw _ (List.mem_of_getElem? (i := 3) rfl)) (hw _ (List.mem_of_getElem? (i := 4) rfl)) (by decide) (c_pick l Z a0 hw a_BIND a_MODIFY a_UNBIND a_ADD a_COMPARE a_SEARCH a_ABANDON a_EXTENDED a_DELETE a_MODIFY_DN (1 : Int32) h0 B ) e0 (argsL := [(.int (1 : Int32))]) (rest := []) (g := (mkF m 9 #[.val (.int i0), .val (.int (1 : Int32)), .unset, .unset] [(.int (1 : Int32))])) rfl (by rw [hml]; rfl) (ps := [.int]) (r := (some (.object "com/example/canonry/canonry/Operation"))) (by decide +kernel) rfl rfl (W := 0) (by show 2 * 0 + _ ≤ _; exact Nat.le_of_eq rfl) (hb hby at_9) (by decide) (by decide) (by decide) (by decide)
    have N4 := Fr.app N0 (Fr.nil n0)
    refine own_go st4 ?_
    show own_G p e below _ T4 (mkF m 12 #[.val (.int i0), .val (.int (1 : Int32)), .unset, .unset] [(.ref (own_pick a_BIND a_MODIFY a_UNBIND a_ADD a_COMPARE a_SEARCH a_ABANDON a_EXTENDED a_DELETE a_MODIFY_DN (1 : Int32)))])
    have r4 : (own_pick a_BIND a_MODIFY a_UNBIND a_ADD a_COMPARE a_SEARCH a_ABANDON a_EXTENDED a_DELETE a_MODIFY_DN (1 : Int32)) = a_UNBIND := by unfold own_pick; rw [if_neg (show ¬ ((1 : Int32) = (0 : Int32)) by decide), if_pos (show ((1 : Int32) = (1 : Int32)) by decide)]
    rw [r4]
    show own_G p e below _ T4 (mkF m 12 #[.val (.int i0), .val (.int (1 : Int32)), .unset, .unset] [(.ref a_UNBIND)])
    refine own_go (fun t k => XS.astoreN X4.here hx rfl (hb hby at_12) rfl rfl (l' := #[.val (.int i0), .val (.int (1 : Int32)), .val (.ref a_UNBIND), .unset]) rfl k) ?_
    show own_G p e below _ T4 (mkF m 13 #[.val (.int i0), .val (.int (1 : Int32)), .val (.ref a_UNBIND), .unset] [])
    refine own_go (fun t k => XS.iloadN X4.here hx rfl (hb hby at_13) rfl k) ?_
    show own_G p e below _ T4 (mkF m 14 #[.val (.int i0), .val (.int (1 : Int32)), .val (.ref a_UNBIND), .unset] [(.int (1 : Int32))])
    refine own_go (fun t k => XS.iconst X4.here hx rfl (hb hby at_14) k) ?_
    show own_G p e below _ T4 (mkF m 15 #[.val (.int i0), .val (.int (1 : Int32)), .val (.ref a_UNBIND), .unset] [(.int (1 : Int32)), (.int (1 : Int32))])
    refine own_go (fun t k => XS.icmpYes X4.here hx rfl (pc0 := 15) (pc' := 28) rfl (hb hby at_15) rfl (by decide) (by decide) (by decide) k) ?_
    show own_G p e below _ T4 (mkF m 28 #[.val (.int i0), .val (.int (1 : Int32)), .val (.ref a_UNBIND), .unset] [])
    refine own_go (fun t k => XS.iconst X4.here hx rfl (hb hby at_28) k) ?_
    show own_G p e below _ T4 (mkF m 29 #[.val (.int i0), .val (.int (1 : Int32)), .val (.ref a_UNBIND), .unset] [(.int (0 : Int32))])
    refine own_go (fun t k => XS.istoreN X4.here hx rfl (hb hby at_29) rfl (l' := #[.val (.int i0), .val (.int (1 : Int32)), .val (.ref a_UNBIND), .val (.int (0 : Int32))]) rfl k) ?_
    show own_G p e below _ T4 (mkF m 30 #[.val (.int i0), .val (.int (1 : Int32)), .val (.ref a_UNBIND), .val (.int (0 : Int32))] [])
    refine own_go (fun t k => XS.aloadN X4.here hx rfl (hb hby at_30) rfl rfl k) ?_
    show own_G p e below _ T4 (mkF m 31 #[.val (.int i0), .val (.int (1 : Int32)), .val (.ref a_UNBIND), .val (.int (0 : Int32))] [(.ref a_UNBIND)])
    obtain ⟨T5, L5, v5, X5, ⟨rfl, rfl, q5⟩, st5⟩ := own_callV X4 hx hZ (y := (⟨"com/example/canonry/canonry/Operation", "hasResponse", "()Z"⟩ : MethodName)) (z := (⟨"com/example/canonry/canonry/Operation", "hasResponse", "()Z"⟩ : MethodName)) hown (hw _ (List.mem_of_getElem? (i := 8) rfl)) (hw _ (List.mem_of_getElem? (i := 9) rfl)) (hw _ (List.mem_of_getElem? (i := 11) rfl)) (hw _ (List.mem_of_getElem? (i := 11) rfl)) (hw _ (List.mem_of_getElem? (i := 10) rfl)) (hw _ (List.mem_of_getElem? (i := 12) rfl)) (hw _ (List.mem_of_getElem? (i := 6) rfl)) (notFace_of_selects (args := #[]) (mvT hZ (hw _ (List.mem_of_getElem? (i := 11) rfl)))) (by decide) (c_has l Z a0 hw a_UNBIND (-1 : Int32) h0  F_UNBIND_responseTag) q4 E_UNBIND (argsL := []) (rest := []) (g := (mkF m 31 #[.val (.int i0), .val (.int (1 : Int32)), .val (.ref a_UNBIND), .val (.int (0 : Int32))] [(.ref a_UNBIND)])) rfl (by rw [hml]; rfl) (ps := []) (r := (some .boolean)) (by decide +kernel) rfl rfl (W := 0) (by show 2 * 0 + _ ≤ _; exact Nat.le_of_eq rfl) (hb hby at_31) (by decide) (by decide) (by decide) (by decide)
    have N5 := Fr.app N4 (Fr.nil n0)
    refine own_go st5 ?_
    show own_G p e below _ T5 (mkF m 34 #[.val (.int i0), .val (.int (1 : Int32)), .val (.ref a_UNBIND), .val (.int (0 : Int32))] [(.int (own_has a_UNBIND (-1 : Int32)))])
    have r5 : (own_has a_UNBIND (-1 : Int32)) = (0 : Int32) := by unfold own_has; rw [if_pos (show ((-1 : Int32) < (0 : Int32)) by decide)]; rfl
    rw [r5]
    show own_G p e below _ T5 (mkF m 34 #[.val (.int i0), .val (.int (1 : Int32)), .val (.ref a_UNBIND), .val (.int (0 : Int32))] [(.int (0 : Int32))])
    refine own_go (fun t k => XS.iloadN X5.here hx rfl (hb hby at_34) rfl k) ?_
    show own_G p e below _ T5 (mkF m 35 #[.val (.int i0), .val (.int (1 : Int32)), .val (.ref a_UNBIND), .val (.int (0 : Int32))] [(.int (0 : Int32)), (.int (0 : Int32))])
    refine own_go (fun t k => XS.icmpNo X5.here hx rfl (hb hby at_35) rfl (by decide) k) ?_
    show own_G p e below _ T5 (mkF m 38 #[.val (.int i0), .val (.int (1 : Int32)), .val (.ref a_UNBIND), .val (.int (0 : Int32))] [])
    refine own_go (fun t k => XS.iconst X5.here hx rfl (hb hby at_38) k) ?_
    show own_G p e below _ T5 (mkF m 39 #[.val (.int i0), .val (.int (1 : Int32)), .val (.ref a_UNBIND), .val (.int (0 : Int32))] [(.int (1 : Int32))])
    refine own_go (fun t k => XS.goto X5.here hx rfl (pc0 := 39) (pc' := 43) rfl (hb hby at_39) (by decide) (by decide) k) ?_
    show own_G p e below _ T5 (mkF m 43 #[.val (.int i0), .val (.int (1 : Int32)), .val (.ref a_UNBIND), .val (.int (0 : Int32))] [(.int (1 : Int32))])
    exact own_retN X5 hx hlk hret (by simp) (hb hby at_43) (by decide) (by decide) ⟨rfl, N5⟩
  · rw [hk1]
    show own_G p e below _ T0 (mkF m 7 #[.val (.int i0), .unset, .unset, .unset] [(.int (2 : Int32))])
    refine own_go (fun t k => XS.istoreN X0.here hx rfl (hb hby at_7) rfl (l' := #[.val (.int i0), .val (.int (2 : Int32)), .unset, .unset]) rfl k) ?_
    show own_G p e below _ T0 (mkF m 8 #[.val (.int i0), .val (.int (2 : Int32)), .unset, .unset] [])
    refine own_go (fun t k => XS.iloadN X0.here hx rfl (hb hby at_8) rfl k) ?_
    show own_G p e below _ T0 (mkF m 9 #[.val (.int i0), .val (.int (2 : Int32)), .unset, .unset] [(.int (2 : Int32))])
    obtain ⟨T6, L6, v6, X6, ⟨rfl, rfl, q6⟩, st6⟩ := own_callS X0 hx hZ (y := (⟨"com/example/canonry/canonry/OperationHasResponsePinLaw", "pick", "(I)Lcom/example/canonry/canonry/Operation;"⟩ : MethodName)) hown (hw _ (List.mem_of_getElem? (i := 1) rfl)) (hw _ (List.mem_of_getElem? (i := 2) rfl)) (hw _ (List.mem_of_getElem? (i := 3) rfl)) (hw _ (List.mem_of_getElem? (i := 4) rfl)) (by decide) (c_pick l Z a0 hw a_BIND a_MODIFY a_UNBIND a_ADD a_COMPARE a_SEARCH a_ABANDON a_EXTENDED a_DELETE a_MODIFY_DN (2 : Int32) h0 B ) e0 (argsL := [(.int (2 : Int32))]) (rest := []) (g := (mkF m 9 #[.val (.int i0), .val (.int (2 : Int32)), .unset, .unset] [(.int (2 : Int32))])) rfl (by rw [hml]; rfl) (ps := [.int]) (r := (some (.object "com/example/canonry/canonry/Operation"))) (by decide +kernel) rfl rfl (W := 0) (by show 2 * 0 + _ ≤ _; exact Nat.le_of_eq rfl) (hb hby at_9) (by decide) (by decide) (by decide) (by decide)
    have N6 := Fr.app N0 (Fr.nil n0)
    refine own_go st6 ?_
    show own_G p e below _ T6 (mkF m 12 #[.val (.int i0), .val (.int (2 : Int32)), .unset, .unset] [(.ref (own_pick a_BIND a_MODIFY a_UNBIND a_ADD a_COMPARE a_SEARCH a_ABANDON a_EXTENDED a_DELETE a_MODIFY_DN (2 : Int32)))])
    have r6 : (own_pick a_BIND a_MODIFY a_UNBIND a_ADD a_COMPARE a_SEARCH a_ABANDON a_EXTENDED a_DELETE a_MODIFY_DN (2 : Int32)) = a_SEARCH := by unfold own_pick; rw [if_neg (show ¬ ((2 : Int32) = (0 : Int32)) by decide), if_neg (show ¬ ((2 : Int32) = (1 : Int32)) by decide), if_pos (show ((2 : Int32) = (2 : Int32)) by decide)]
    rw [r6]
    show own_G p e below _ T6 (mkF m 12 #[.val (.int i0), .val (.int (2 : Int32)), .unset, .unset] [(.ref a_SEARCH)])
    refine own_go (fun t k => XS.astoreN X6.here hx rfl (hb hby at_12) rfl rfl (l' := #[.val (.int i0), .val (.int (2 : Int32)), .val (.ref a_SEARCH), .unset]) rfl k) ?_
    show own_G p e below _ T6 (mkF m 13 #[.val (.int i0), .val (.int (2 : Int32)), .val (.ref a_SEARCH), .unset] [])
    refine own_go (fun t k => XS.iloadN X6.here hx rfl (hb hby at_13) rfl k) ?_
    show own_G p e below _ T6 (mkF m 14 #[.val (.int i0), .val (.int (2 : Int32)), .val (.ref a_SEARCH), .unset] [(.int (2 : Int32))])
    refine own_go (fun t k => XS.iconst X6.here hx rfl (hb hby at_14) k) ?_
    show own_G p e below _ T6 (mkF m 15 #[.val (.int i0), .val (.int (2 : Int32)), .val (.ref a_SEARCH), .unset] [(.int (1 : Int32)), (.int (2 : Int32))])
    refine own_go (fun t k => XS.icmpNo X6.here hx rfl (hb hby at_15) rfl (by decide) k) ?_
    show own_G p e below _ T6 (mkF m 18 #[.val (.int i0), .val (.int (2 : Int32)), .val (.ref a_SEARCH), .unset] [])
    refine own_go (fun t k => XS.iloadN X6.here hx rfl (hb hby at_18) rfl k) ?_
    show own_G p e below _ T6 (mkF m 19 #[.val (.int i0), .val (.int (2 : Int32)), .val (.ref a_SEARCH), .unset] [(.int (2 : Int32))])
    refine own_go (fun t k => XS.bipush X6.here hx rfl (hb hby at_19) k) ?_
    show own_G p e below _ T6 (mkF m 21 #[.val (.int i0), .val (.int (2 : Int32)), .val (.ref a_SEARCH), .unset] [(.int (8 : Int32)), (.int (2 : Int32))])
    refine own_go (fun t k => XS.icmpNo X6.here hx rfl (hb hby at_21) rfl (by decide) k) ?_
    show own_G p e below _ T6 (mkF m 24 #[.val (.int i0), .val (.int (2 : Int32)), .val (.ref a_SEARCH), .unset] [])
    refine own_go (fun t k => XS.iconst X6.here hx rfl (hb hby at_24) k) ?_
    show own_G p e below _ T6 (mkF m 25 #[.val (.int i0), .val (.int (2 : Int32)), .val (.ref a_SEARCH), .unset] [(.int (1 : Int32))])
    refine own_go (fun t k => XS.goto X6.here hx rfl (pc0 := 25) (pc' := 29) rfl (hb hby at_25) (by decide) (by decide) k) ?_
    show own_G p e below _ T6 (mkF m 29 #[.val (.int i0), .val (.int (2 : Int32)), .val (.ref a_SEARCH), .unset] [(.int (1 : Int32))])
    refine own_go (fun t k => XS.istoreN X6.here hx rfl (hb hby at_29) rfl (l' := #[.val (.int i0), .val (.int (2 : Int32)), .val (.ref a_SEARCH), .val (.int (1 : Int32))]) rfl k) ?_
    show own_G p e below _ T6 (mkF m 30 #[.val (.int i0), .val (.int (2 : Int32)), .val (.ref a_SEARCH), .val (.int (1 : Int32))] [])
    refine own_go (fun t k => XS.aloadN X6.here hx rfl (hb hby at_30) rfl rfl k) ?_
    show own_G p e below _ T6 (mkF m 31 #[.val (.int i0), .val (.int (2 : Int32)), .val (.ref a_SEARCH), .val (.int (1 : Int32))] [(.ref a_SEARCH)])
    obtain ⟨T7, L7, v7, X7, ⟨rfl, rfl, q7⟩, st7⟩ := own_callV X6 hx hZ (y := (⟨"com/example/canonry/canonry/Operation", "hasResponse", "()Z"⟩ : MethodName)) (z := (⟨"com/example/canonry/canonry/Operation", "hasResponse", "()Z"⟩ : MethodName)) hown (hw _ (List.mem_of_getElem? (i := 8) rfl)) (hw _ (List.mem_of_getElem? (i := 9) rfl)) (hw _ (List.mem_of_getElem? (i := 11) rfl)) (hw _ (List.mem_of_getElem? (i := 11) rfl)) (hw _ (List.mem_of_getElem? (i := 10) rfl)) (hw _ (List.mem_of_getElem? (i := 12) rfl)) (hw _ (List.mem_of_getElem? (i := 6) rfl)) (notFace_of_selects (args := #[]) (mvT hZ (hw _ (List.mem_of_getElem? (i := 11) rfl)))) (by decide) (c_has l Z a0 hw a_SEARCH (101 : Int32) h0  F_SEARCH_responseTag) q6 E_SEARCH (argsL := []) (rest := []) (g := (mkF m 31 #[.val (.int i0), .val (.int (2 : Int32)), .val (.ref a_SEARCH), .val (.int (1 : Int32))] [(.ref a_SEARCH)])) rfl (by rw [hml]; rfl) (ps := []) (r := (some .boolean)) (by decide +kernel) rfl rfl (W := 0) (by show 2 * 0 + _ ≤ _; exact Nat.le_of_eq rfl) (hb hby at_31) (by decide) (by decide) (by decide) (by decide)
    have N7 := Fr.app N6 (Fr.nil n0)
    refine own_go st7 ?_
    show own_G p e below _ T7 (mkF m 34 #[.val (.int i0), .val (.int (2 : Int32)), .val (.ref a_SEARCH), .val (.int (1 : Int32))] [(.int (own_has a_SEARCH (101 : Int32)))])
    have r7 : (own_has a_SEARCH (101 : Int32)) = (1 : Int32) := by unfold own_has; rw [if_neg (show ¬ ((101 : Int32) < (0 : Int32)) by decide)]; rfl
    rw [r7]
    show own_G p e below _ T7 (mkF m 34 #[.val (.int i0), .val (.int (2 : Int32)), .val (.ref a_SEARCH), .val (.int (1 : Int32))] [(.int (1 : Int32))])
    refine own_go (fun t k => XS.iloadN X7.here hx rfl (hb hby at_34) rfl k) ?_
    show own_G p e below _ T7 (mkF m 35 #[.val (.int i0), .val (.int (2 : Int32)), .val (.ref a_SEARCH), .val (.int (1 : Int32))] [(.int (1 : Int32)), (.int (1 : Int32))])
    refine own_go (fun t k => XS.icmpNo X7.here hx rfl (hb hby at_35) rfl (by decide) k) ?_
    show own_G p e below _ T7 (mkF m 38 #[.val (.int i0), .val (.int (2 : Int32)), .val (.ref a_SEARCH), .val (.int (1 : Int32))] [])
    refine own_go (fun t k => XS.iconst X7.here hx rfl (hb hby at_38) k) ?_
    show own_G p e below _ T7 (mkF m 39 #[.val (.int i0), .val (.int (2 : Int32)), .val (.ref a_SEARCH), .val (.int (1 : Int32))] [(.int (1 : Int32))])
    refine own_go (fun t k => XS.goto X7.here hx rfl (pc0 := 39) (pc' := 43) rfl (hb hby at_39) (by decide) (by decide) k) ?_
    show own_G p e below _ T7 (mkF m 43 #[.val (.int i0), .val (.int (2 : Int32)), .val (.ref a_SEARCH), .val (.int (1 : Int32))] [(.int (1 : Int32))])
    exact own_retN X7 hx hlk hret (by simp) (hb hby at_43) (by decide) (by decide) ⟨rfl, N7⟩
  · rw [hk1]
    show own_G p e below _ T0 (mkF m 7 #[.val (.int i0), .unset, .unset, .unset] [(.int (3 : Int32))])
    refine own_go (fun t k => XS.istoreN X0.here hx rfl (hb hby at_7) rfl (l' := #[.val (.int i0), .val (.int (3 : Int32)), .unset, .unset]) rfl k) ?_
    show own_G p e below _ T0 (mkF m 8 #[.val (.int i0), .val (.int (3 : Int32)), .unset, .unset] [])
    refine own_go (fun t k => XS.iloadN X0.here hx rfl (hb hby at_8) rfl k) ?_
    show own_G p e below _ T0 (mkF m 9 #[.val (.int i0), .val (.int (3 : Int32)), .unset, .unset] [(.int (3 : Int32))])
    obtain ⟨T8, L8, v8, X8, ⟨rfl, rfl, q8⟩, st8⟩ := own_callS X0 hx hZ (y := (⟨"com/example/canonry/canonry/OperationHasResponsePinLaw", "pick", "(I)Lcom/example/canonry/canonry/Operation;"⟩ : MethodName)) hown (hw _ (List.mem_of_getElem? (i := 1) rfl)) (hw _ (List.mem_of_getElem? (i := 2) rfl)) (hw _ (List.mem_of_getElem? (i := 3) rfl)) (hw _ (List.mem_of_getElem? (i := 4) rfl)) (by decide) (c_pick l Z a0 hw a_BIND a_MODIFY a_UNBIND a_ADD a_COMPARE a_SEARCH a_ABANDON a_EXTENDED a_DELETE a_MODIFY_DN (3 : Int32) h0 B ) e0 (argsL := [(.int (3 : Int32))]) (rest := []) (g := (mkF m 9 #[.val (.int i0), .val (.int (3 : Int32)), .unset, .unset] [(.int (3 : Int32))])) rfl (by rw [hml]; rfl) (ps := [.int]) (r := (some (.object "com/example/canonry/canonry/Operation"))) (by decide +kernel) rfl rfl (W := 0) (by show 2 * 0 + _ ≤ _; exact Nat.le_of_eq rfl) (hb hby at_9) (by decide) (by decide) (by decide) (by decide)
    have N8 := Fr.app N0 (Fr.nil n0)
    refine own_go st8 ?_
    show own_G p e below _ T8 (mkF m 12 #[.val (.int i0), .val (.int (3 : Int32)), .unset, .unset] [(.ref (own_pick a_BIND a_MODIFY a_UNBIND a_ADD a_COMPARE a_SEARCH a_ABANDON a_EXTENDED a_DELETE a_MODIFY_DN (3 : Int32)))])
    have r8 : (own_pick a_BIND a_MODIFY a_UNBIND a_ADD a_COMPARE a_SEARCH a_ABANDON a_EXTENDED a_DELETE a_MODIFY_DN (3 : Int32)) = a_MODIFY := by unfold own_pick; rw [if_neg (show ¬ ((3 : Int32) = (0 : Int32)) by decide), if_neg (show ¬ ((3 : Int32) = (1 : Int32)) by decide), if_neg (show ¬ ((3 : Int32) = (2 : Int32)) by decide), if_pos (show ((3 : Int32) = (3 : Int32)) by decide)]
    rw [r8]
    show own_G p e below _ T8 (mkF m 12 #[.val (.int i0), .val (.int (3 : Int32)), .unset, .unset] [(.ref a_MODIFY)])
    refine own_go (fun t k => XS.astoreN X8.here hx rfl (hb hby at_12) rfl rfl (l' := #[.val (.int i0), .val (.int (3 : Int32)), .val (.ref a_MODIFY), .unset]) rfl k) ?_
    show own_G p e below _ T8 (mkF m 13 #[.val (.int i0), .val (.int (3 : Int32)), .val (.ref a_MODIFY), .unset] [])
    refine own_go (fun t k => XS.iloadN X8.here hx rfl (hb hby at_13) rfl k) ?_
    show own_G p e below _ T8 (mkF m 14 #[.val (.int i0), .val (.int (3 : Int32)), .val (.ref a_MODIFY), .unset] [(.int (3 : Int32))])
    refine own_go (fun t k => XS.iconst X8.here hx rfl (hb hby at_14) k) ?_
    show own_G p e below _ T8 (mkF m 15 #[.val (.int i0), .val (.int (3 : Int32)), .val (.ref a_MODIFY), .unset] [(.int (1 : Int32)), (.int (3 : Int32))])
    refine own_go (fun t k => XS.icmpNo X8.here hx rfl (hb hby at_15) rfl (by decide) k) ?_
    show own_G p e below _ T8 (mkF m 18 #[.val (.int i0), .val (.int (3 : Int32)), .val (.ref a_MODIFY), .unset] [])
    refine own_go (fun t k => XS.iloadN X8.here hx rfl (hb hby at_18) rfl k) ?_
    show own_G p e below _ T8 (mkF m 19 #[.val (.int i0), .val (.int (3 : Int32)), .val (.ref a_MODIFY), .unset] [(.int (3 : Int32))])
    refine own_go (fun t k => XS.bipush X8.here hx rfl (hb hby at_19) k) ?_
    show own_G p e below _ T8 (mkF m 21 #[.val (.int i0), .val (.int (3 : Int32)), .val (.ref a_MODIFY), .unset] [(.int (8 : Int32)), (.int (3 : Int32))])
    refine own_go (fun t k => XS.icmpNo X8.here hx rfl (hb hby at_21) rfl (by decide) k) ?_
    show own_G p e below _ T8 (mkF m 24 #[.val (.int i0), .val (.int (3 : Int32)), .val (.ref a_MODIFY), .unset] [])
    refine own_go (fun t k => XS.iconst X8.here hx rfl (hb hby at_24) k) ?_
    show own_G p e below _ T8 (mkF m 25 #[.val (.int i0), .val (.int (3 : Int32)), .val (.ref a_MODIFY), .unset] [(.int (1 : Int32))])
    refine own_go (fun t k => XS.goto X8.here hx rfl (pc0 := 25) (pc' := 29) rfl (hb hby at_25) (by decide) (by decide) k) ?_
    show own_G p e below _ T8 (mkF m 29 #[.val (.int i0), .val (.int (3 : Int32)), .val (.ref a_MODIFY), .unset] [(.int (1 : Int32))])
    refine own_go (fun t k => XS.istoreN X8.here hx rfl (hb hby at_29) rfl (l' := #[.val (.int i0), .val (.int (3 : Int32)), .val (.ref a_MODIFY), .val (.int (1 : Int32))]) rfl k) ?_
    show own_G p e below _ T8 (mkF m 30 #[.val (.int i0), .val (.int (3 : Int32)), .val (.ref a_MODIFY), .val (.int (1 : Int32))] [])
    refine own_go (fun t k => XS.aloadN X8.here hx rfl (hb hby at_30) rfl rfl k) ?_
    show own_G p e below _ T8 (mkF m 31 #[.val (.int i0), .val (.int (3 : Int32)), .val (.ref a_MODIFY), .val (.int (1 : Int32))] [(.ref a_MODIFY)])
    obtain ⟨T9, L9, v9, X9, ⟨rfl, rfl, q9⟩, st9⟩ := own_callV X8 hx hZ (y := (⟨"com/example/canonry/canonry/Operation", "hasResponse", "()Z"⟩ : MethodName)) (z := (⟨"com/example/canonry/canonry/Operation", "hasResponse", "()Z"⟩ : MethodName)) hown (hw _ (List.mem_of_getElem? (i := 8) rfl)) (hw _ (List.mem_of_getElem? (i := 9) rfl)) (hw _ (List.mem_of_getElem? (i := 11) rfl)) (hw _ (List.mem_of_getElem? (i := 11) rfl)) (hw _ (List.mem_of_getElem? (i := 10) rfl)) (hw _ (List.mem_of_getElem? (i := 12) rfl)) (hw _ (List.mem_of_getElem? (i := 6) rfl)) (notFace_of_selects (args := #[]) (mvT hZ (hw _ (List.mem_of_getElem? (i := 11) rfl)))) (by decide) (c_has l Z a0 hw a_MODIFY (103 : Int32) h0  F_MODIFY_responseTag) q8 E_MODIFY (argsL := []) (rest := []) (g := (mkF m 31 #[.val (.int i0), .val (.int (3 : Int32)), .val (.ref a_MODIFY), .val (.int (1 : Int32))] [(.ref a_MODIFY)])) rfl (by rw [hml]; rfl) (ps := []) (r := (some .boolean)) (by decide +kernel) rfl rfl (W := 0) (by show 2 * 0 + _ ≤ _; exact Nat.le_of_eq rfl) (hb hby at_31) (by decide) (by decide) (by decide) (by decide)
    have N9 := Fr.app N8 (Fr.nil n0)
    refine own_go st9 ?_
    show own_G p e below _ T9 (mkF m 34 #[.val (.int i0), .val (.int (3 : Int32)), .val (.ref a_MODIFY), .val (.int (1 : Int32))] [(.int (own_has a_MODIFY (103 : Int32)))])
    have r9 : (own_has a_MODIFY (103 : Int32)) = (1 : Int32) := by unfold own_has; rw [if_neg (show ¬ ((103 : Int32) < (0 : Int32)) by decide)]; rfl
    rw [r9]
    show own_G p e below _ T9 (mkF m 34 #[.val (.int i0), .val (.int (3 : Int32)), .val (.ref a_MODIFY), .val (.int (1 : Int32))] [(.int (1 : Int32))])
    refine own_go (fun t k => XS.iloadN X9.here hx rfl (hb hby at_34) rfl k) ?_
    show own_G p e below _ T9 (mkF m 35 #[.val (.int i0), .val (.int (3 : Int32)), .val (.ref a_MODIFY), .val (.int (1 : Int32))] [(.int (1 : Int32)), (.int (1 : Int32))])
    refine own_go (fun t k => XS.icmpNo X9.here hx rfl (hb hby at_35) rfl (by decide) k) ?_
    show own_G p e below _ T9 (mkF m 38 #[.val (.int i0), .val (.int (3 : Int32)), .val (.ref a_MODIFY), .val (.int (1 : Int32))] [])
    refine own_go (fun t k => XS.iconst X9.here hx rfl (hb hby at_38) k) ?_
    show own_G p e below _ T9 (mkF m 39 #[.val (.int i0), .val (.int (3 : Int32)), .val (.ref a_MODIFY), .val (.int (1 : Int32))] [(.int (1 : Int32))])
    refine own_go (fun t k => XS.goto X9.here hx rfl (pc0 := 39) (pc' := 43) rfl (hb hby at_39) (by decide) (by decide) k) ?_
    show own_G p e below _ T9 (mkF m 43 #[.val (.int i0), .val (.int (3 : Int32)), .val (.ref a_MODIFY), .val (.int (1 : Int32))] [(.int (1 : Int32))])
    exact own_retN X9 hx hlk hret (by simp) (hb hby at_43) (by decide) (by decide) ⟨rfl, N9⟩
  · rw [hk1]
    show own_G p e below _ T0 (mkF m 7 #[.val (.int i0), .unset, .unset, .unset] [(.int (4 : Int32))])
    refine own_go (fun t k => XS.istoreN X0.here hx rfl (hb hby at_7) rfl (l' := #[.val (.int i0), .val (.int (4 : Int32)), .unset, .unset]) rfl k) ?_
    show own_G p e below _ T0 (mkF m 8 #[.val (.int i0), .val (.int (4 : Int32)), .unset, .unset] [])
    refine own_go (fun t k => XS.iloadN X0.here hx rfl (hb hby at_8) rfl k) ?_
    show own_G p e below _ T0 (mkF m 9 #[.val (.int i0), .val (.int (4 : Int32)), .unset, .unset] [(.int (4 : Int32))])
    obtain ⟨T10, L10, v10, X10, ⟨rfl, rfl, q10⟩, st10⟩ := own_callS X0 hx hZ (y := (⟨"com/example/canonry/canonry/OperationHasResponsePinLaw", "pick", "(I)Lcom/example/canonry/canonry/Operation;"⟩ : MethodName)) hown (hw _ (List.mem_of_getElem? (i := 1) rfl)) (hw _ (List.mem_of_getElem? (i := 2) rfl)) (hw _ (List.mem_of_getElem? (i := 3) rfl)) (hw _ (List.mem_of_getElem? (i := 4) rfl)) (by decide) (c_pick l Z a0 hw a_BIND a_MODIFY a_UNBIND a_ADD a_COMPARE a_SEARCH a_ABANDON a_EXTENDED a_DELETE a_MODIFY_DN (4 : Int32) h0 B ) e0 (argsL := [(.int (4 : Int32))]) (rest := []) (g := (mkF m 9 #[.val (.int i0), .val (.int (4 : Int32)), .unset, .unset] [(.int (4 : Int32))])) rfl (by rw [hml]; rfl) (ps := [.int]) (r := (some (.object "com/example/canonry/canonry/Operation"))) (by decide +kernel) rfl rfl (W := 0) (by show 2 * 0 + _ ≤ _; exact Nat.le_of_eq rfl) (hb hby at_9) (by decide) (by decide) (by decide) (by decide)
    have N10 := Fr.app N0 (Fr.nil n0)
    refine own_go st10 ?_
    show own_G p e below _ T10 (mkF m 12 #[.val (.int i0), .val (.int (4 : Int32)), .unset, .unset] [(.ref (own_pick a_BIND a_MODIFY a_UNBIND a_ADD a_COMPARE a_SEARCH a_ABANDON a_EXTENDED a_DELETE a_MODIFY_DN (4 : Int32)))])
    have r10 : (own_pick a_BIND a_MODIFY a_UNBIND a_ADD a_COMPARE a_SEARCH a_ABANDON a_EXTENDED a_DELETE a_MODIFY_DN (4 : Int32)) = a_ADD := by unfold own_pick; rw [if_neg (show ¬ ((4 : Int32) = (0 : Int32)) by decide), if_neg (show ¬ ((4 : Int32) = (1 : Int32)) by decide), if_neg (show ¬ ((4 : Int32) = (2 : Int32)) by decide), if_neg (show ¬ ((4 : Int32) = (3 : Int32)) by decide), if_pos (show ((4 : Int32) = (4 : Int32)) by decide)]
    rw [r10]
    show own_G p e below _ T10 (mkF m 12 #[.val (.int i0), .val (.int (4 : Int32)), .unset, .unset] [(.ref a_ADD)])
    refine own_go (fun t k => XS.astoreN X10.here hx rfl (hb hby at_12) rfl rfl (l' := #[.val (.int i0), .val (.int (4 : Int32)), .val (.ref a_ADD), .unset]) rfl k) ?_
    show own_G p e below _ T10 (mkF m 13 #[.val (.int i0), .val (.int (4 : Int32)), .val (.ref a_ADD), .unset] [])
    refine own_go (fun t k => XS.iloadN X10.here hx rfl (hb hby at_13) rfl k) ?_
    show own_G p e below _ T10 (mkF m 14 #[.val (.int i0), .val (.int (4 : Int32)), .val (.ref a_ADD), .unset] [(.int (4 : Int32))])
    refine own_go (fun t k => XS.iconst X10.here hx rfl (hb hby at_14) k) ?_
    show own_G p e below _ T10 (mkF m 15 #[.val (.int i0), .val (.int (4 : Int32)), .val (.ref a_ADD), .unset] [(.int (1 : Int32)), (.int (4 : Int32))])
    refine own_go (fun t k => XS.icmpNo X10.here hx rfl (hb hby at_15) rfl (by decide) k) ?_
    show own_G p e below _ T10 (mkF m 18 #[.val (.int i0), .val (.int (4 : Int32)), .val (.ref a_ADD), .unset] [])
    refine own_go (fun t k => XS.iloadN X10.here hx rfl (hb hby at_18) rfl k) ?_
    show own_G p e below _ T10 (mkF m 19 #[.val (.int i0), .val (.int (4 : Int32)), .val (.ref a_ADD), .unset] [(.int (4 : Int32))])
    refine own_go (fun t k => XS.bipush X10.here hx rfl (hb hby at_19) k) ?_
    show own_G p e below _ T10 (mkF m 21 #[.val (.int i0), .val (.int (4 : Int32)), .val (.ref a_ADD), .unset] [(.int (8 : Int32)), (.int (4 : Int32))])
    refine own_go (fun t k => XS.icmpNo X10.here hx rfl (hb hby at_21) rfl (by decide) k) ?_
    show own_G p e below _ T10 (mkF m 24 #[.val (.int i0), .val (.int (4 : Int32)), .val (.ref a_ADD), .unset] [])
    refine own_go (fun t k => XS.iconst X10.here hx rfl (hb hby at_24) k) ?_
    show own_G p e below _ T10 (mkF m 25 #[.val (.int i0), .val (.int (4 : Int32)), .val (.ref a_ADD), .unset] [(.int (1 : Int32))])
    refine own_go (fun t k => XS.goto X10.here hx rfl (pc0 := 25) (pc' := 29) rfl (hb hby at_25) (by decide) (by decide) k) ?_
    show own_G p e below _ T10 (mkF m 29 #[.val (.int i0), .val (.int (4 : Int32)), .val (.ref a_ADD), .unset] [(.int (1 : Int32))])
    refine own_go (fun t k => XS.istoreN X10.here hx rfl (hb hby at_29) rfl (l' := #[.val (.int i0), .val (.int (4 : Int32)), .val (.ref a_ADD), .val (.int (1 : Int32))]) rfl k) ?_
    show own_G p e below _ T10 (mkF m 30 #[.val (.int i0), .val (.int (4 : Int32)), .val (.ref a_ADD), .val (.int (1 : Int32))] [])
    refine own_go (fun t k => XS.aloadN X10.here hx rfl (hb hby at_30) rfl rfl k) ?_
    show own_G p e below _ T10 (mkF m 31 #[.val (.int i0), .val (.int (4 : Int32)), .val (.ref a_ADD), .val (.int (1 : Int32))] [(.ref a_ADD)])
    obtain ⟨T11, L11, v11, X11, ⟨rfl, rfl, q11⟩, st11⟩ := own_callV X10 hx hZ (y := (⟨"com/example/canonry/canonry/Operation", "hasResponse", "()Z"⟩ : MethodName)) (z := (⟨"com/example/canonry/canonry/Operation", "hasResponse", "()Z"⟩ : MethodName)) hown (hw _ (List.mem_of_getElem? (i := 8) rfl)) (hw _ (List.mem_of_getElem? (i := 9) rfl)) (hw _ (List.mem_of_getElem? (i := 11) rfl)) (hw _ (List.mem_of_getElem? (i := 11) rfl)) (hw _ (List.mem_of_getElem? (i := 10) rfl)) (hw _ (List.mem_of_getElem? (i := 12) rfl)) (hw _ (List.mem_of_getElem? (i := 6) rfl)) (notFace_of_selects (args := #[]) (mvT hZ (hw _ (List.mem_of_getElem? (i := 11) rfl)))) (by decide) (c_has l Z a0 hw a_ADD (105 : Int32) h0  F_ADD_responseTag) q10 E_ADD (argsL := []) (rest := []) (g := (mkF m 31 #[.val (.int i0), .val (.int (4 : Int32)), .val (.ref a_ADD), .val (.int (1 : Int32))] [(.ref a_ADD)])) rfl (by rw [hml]; rfl) (ps := []) (r := (some .boolean)) (by decide +kernel) rfl rfl (W := 0) (by show 2 * 0 + _ ≤ _; exact Nat.le_of_eq rfl) (hb hby at_31) (by decide) (by decide) (by decide) (by decide)
    have N11 := Fr.app N10 (Fr.nil n0)
    refine own_go st11 ?_
    show own_G p e below _ T11 (mkF m 34 #[.val (.int i0), .val (.int (4 : Int32)), .val (.ref a_ADD), .val (.int (1 : Int32))] [(.int (own_has a_ADD (105 : Int32)))])
    have r11 : (own_has a_ADD (105 : Int32)) = (1 : Int32) := by unfold own_has; rw [if_neg (show ¬ ((105 : Int32) < (0 : Int32)) by decide)]; rfl
    rw [r11]
    show own_G p e below _ T11 (mkF m 34 #[.val (.int i0), .val (.int (4 : Int32)), .val (.ref a_ADD), .val (.int (1 : Int32))] [(.int (1 : Int32))])
    refine own_go (fun t k => XS.iloadN X11.here hx rfl (hb hby at_34) rfl k) ?_
    show own_G p e below _ T11 (mkF m 35 #[.val (.int i0), .val (.int (4 : Int32)), .val (.ref a_ADD), .val (.int (1 : Int32))] [(.int (1 : Int32)), (.int (1 : Int32))])
    refine own_go (fun t k => XS.icmpNo X11.here hx rfl (hb hby at_35) rfl (by decide) k) ?_
    show own_G p e below _ T11 (mkF m 38 #[.val (.int i0), .val (.int (4 : Int32)), .val (.ref a_ADD), .val (.int (1 : Int32))] [])
    refine own_go (fun t k => XS.iconst X11.here hx rfl (hb hby at_38) k) ?_
    show own_G p e below _ T11 (mkF m 39 #[.val (.int i0), .val (.int (4 : Int32)), .val (.ref a_ADD), .val (.int (1 : Int32))] [(.int (1 : Int32))])
    refine own_go (fun t k => XS.goto X11.here hx rfl (pc0 := 39) (pc' := 43) rfl (hb hby at_39) (by decide) (by decide) k) ?_
    show own_G p e below _ T11 (mkF m 43 #[.val (.int i0), .val (.int (4 : Int32)), .val (.ref a_ADD), .val (.int (1 : Int32))] [(.int (1 : Int32))])
    exact own_retN X11 hx hlk hret (by simp) (hb hby at_43) (by decide) (by decide) ⟨rfl, N11⟩
  · rw [hk1]
    show own_G p e below _ T0 (mkF m 7 #[.val (.int i0), .unset, .unset, .unset] [(.int (5 : Int32))])
    refine own_go (fun t k => XS.istoreN X0.here hx rfl (hb hby at_7) rfl (l' := #[.val (.int i0), .val (.int (5 : Int32)), .unset, .unset]) rfl k) ?_
    show own_G p e below _ T0 (mkF m 8 #[.val (.int i0), .val (.int (5 : Int32)), .unset, .unset] [])
    refine own_go (fun t k => XS.iloadN X0.here hx rfl (hb hby at_8) rfl k) ?_
    show own_G p e below _ T0 (mkF m 9 #[.val (.int i0), .val (.int (5 : Int32)), .unset, .unset] [(.int (5 : Int32))])
    obtain ⟨T12, L12, v12, X12, ⟨rfl, rfl, q12⟩, st12⟩ := own_callS X0 hx hZ (y := (⟨"com/example/canonry/canonry/OperationHasResponsePinLaw", "pick", "(I)Lcom/example/canonry/canonry/Operation;"⟩ : MethodName)) hown (hw _ (List.mem_of_getElem? (i := 1) rfl)) (hw _ (List.mem_of_getElem? (i := 2) rfl)) (hw _ (List.mem_of_getElem? (i := 3) rfl)) (hw _ (List.mem_of_getElem? (i := 4) rfl)) (by decide) (c_pick l Z a0 hw a_BIND a_MODIFY a_UNBIND a_ADD a_COMPARE a_SEARCH a_ABANDON a_EXTENDED a_DELETE a_MODIFY_DN (5 : Int32) h0 B ) e0 (argsL := [(.int (5 : Int32))]) (rest := []) (g := (mkF m 9 #[.val (.int i0), .val (.int (5 : Int32)), .unset, .unset] [(.int (5 : Int32))])) rfl (by rw [hml]; rfl) (ps := [.int]) (r := (some (.object "com/example/canonry/canonry/Operation"))) (by decide +kernel) rfl rfl (W := 0) (by show 2 * 0 + _ ≤ _; exact Nat.le_of_eq rfl) (hb hby at_9) (by decide) (by decide) (by decide) (by decide)
    have N12 := Fr.app N0 (Fr.nil n0)
    refine own_go st12 ?_
    show own_G p e below _ T12 (mkF m 12 #[.val (.int i0), .val (.int (5 : Int32)), .unset, .unset] [(.ref (own_pick a_BIND a_MODIFY a_UNBIND a_ADD a_COMPARE a_SEARCH a_ABANDON a_EXTENDED a_DELETE a_MODIFY_DN (5 : Int32)))])
    have r12 : (own_pick a_BIND a_MODIFY a_UNBIND a_ADD a_COMPARE a_SEARCH a_ABANDON a_EXTENDED a_DELETE a_MODIFY_DN (5 : Int32)) = a_DELETE := by unfold own_pick; rw [if_neg (show ¬ ((5 : Int32) = (0 : Int32)) by decide), if_neg (show ¬ ((5 : Int32) = (1 : Int32)) by decide), if_neg (show ¬ ((5 : Int32) = (2 : Int32)) by decide), if_neg (show ¬ ((5 : Int32) = (3 : Int32)) by decide), if_neg (show ¬ ((5 : Int32) = (4 : Int32)) by decide), if_pos (show ((5 : Int32) = (5 : Int32)) by decide)]
    rw [r12]
    show own_G p e below _ T12 (mkF m 12 #[.val (.int i0), .val (.int (5 : Int32)), .unset, .unset] [(.ref a_DELETE)])
    refine own_go (fun t k => XS.astoreN X12.here hx rfl (hb hby at_12) rfl rfl (l' := #[.val (.int i0), .val (.int (5 : Int32)), .val (.ref a_DELETE), .unset]) rfl k) ?_
    show own_G p e below _ T12 (mkF m 13 #[.val (.int i0), .val (.int (5 : Int32)), .val (.ref a_DELETE), .unset] [])
    refine own_go (fun t k => XS.iloadN X12.here hx rfl (hb hby at_13) rfl k) ?_
    show own_G p e below _ T12 (mkF m 14 #[.val (.int i0), .val (.int (5 : Int32)), .val (.ref a_DELETE), .unset] [(.int (5 : Int32))])
    refine own_go (fun t k => XS.iconst X12.here hx rfl (hb hby at_14) k) ?_
    show own_G p e below _ T12 (mkF m 15 #[.val (.int i0), .val (.int (5 : Int32)), .val (.ref a_DELETE), .unset] [(.int (1 : Int32)), (.int (5 : Int32))])
    refine own_go (fun t k => XS.icmpNo X12.here hx rfl (hb hby at_15) rfl (by decide) k) ?_
    show own_G p e below _ T12 (mkF m 18 #[.val (.int i0), .val (.int (5 : Int32)), .val (.ref a_DELETE), .unset] [])
    refine own_go (fun t k => XS.iloadN X12.here hx rfl (hb hby at_18) rfl k) ?_
    show own_G p e below _ T12 (mkF m 19 #[.val (.int i0), .val (.int (5 : Int32)), .val (.ref a_DELETE), .unset] [(.int (5 : Int32))])
    refine own_go (fun t k => XS.bipush X12.here hx rfl (hb hby at_19) k) ?_
    show own_G p e below _ T12 (mkF m 21 #[.val (.int i0), .val (.int (5 : Int32)), .val (.ref a_DELETE), .unset] [(.int (8 : Int32)), (.int (5 : Int32))])
    refine own_go (fun t k => XS.icmpNo X12.here hx rfl (hb hby at_21) rfl (by decide) k) ?_
    show own_G p e below _ T12 (mkF m 24 #[.val (.int i0), .val (.int (5 : Int32)), .val (.ref a_DELETE), .unset] [])
    refine own_go (fun t k => XS.iconst X12.here hx rfl (hb hby at_24) k) ?_
    show own_G p e below _ T12 (mkF m 25 #[.val (.int i0), .val (.int (5 : Int32)), .val (.ref a_DELETE), .unset] [(.int (1 : Int32))])
    refine own_go (fun t k => XS.goto X12.here hx rfl (pc0 := 25) (pc' := 29) rfl (hb hby at_25) (by decide) (by decide) k) ?_
    show own_G p e below _ T12 (mkF m 29 #[.val (.int i0), .val (.int (5 : Int32)), .val (.ref a_DELETE), .unset] [(.int (1 : Int32))])
    refine own_go (fun t k => XS.istoreN X12.here hx rfl (hb hby at_29) rfl (l' := #[.val (.int i0), .val (.int (5 : Int32)), .val (.ref a_DELETE), .val (.int (1 : Int32))]) rfl k) ?_
    show own_G p e below _ T12 (mkF m 30 #[.val (.int i0), .val (.int (5 : Int32)), .val (.ref a_DELETE), .val (.int (1 : Int32))] [])
    refine own_go (fun t k => XS.aloadN X12.here hx rfl (hb hby at_30) rfl rfl k) ?_
    show own_G p e below _ T12 (mkF m 31 #[.val (.int i0), .val (.int (5 : Int32)), .val (.ref a_DELETE), .val (.int (1 : Int32))] [(.ref a_DELETE)])
    obtain ⟨T13, L13, v13, X13, ⟨rfl, rfl, q13⟩, st13⟩ := own_callV X12 hx hZ (y := (⟨"com/example/canonry/canonry/Operation", "hasResponse", "()Z"⟩ : MethodName)) (z := (⟨"com/example/canonry/canonry/Operation", "hasResponse", "()Z"⟩ : MethodName)) hown (hw _ (List.mem_of_getElem? (i := 8) rfl)) (hw _ (List.mem_of_getElem? (i := 9) rfl)) (hw _ (List.mem_of_getElem? (i := 11) rfl)) (hw _ (List.mem_of_getElem? (i := 11) rfl)) (hw _ (List.mem_of_getElem? (i := 10) rfl)) (hw _ (List.mem_of_getElem? (i := 12) rfl)) (hw _ (List.mem_of_getElem? (i := 6) rfl)) (notFace_of_selects (args := #[]) (mvT hZ (hw _ (List.mem_of_getElem? (i := 11) rfl)))) (by decide) (c_has l Z a0 hw a_DELETE (107 : Int32) h0  F_DELETE_responseTag) q12 E_DELETE (argsL := []) (rest := []) (g := (mkF m 31 #[.val (.int i0), .val (.int (5 : Int32)), .val (.ref a_DELETE), .val (.int (1 : Int32))] [(.ref a_DELETE)])) rfl (by rw [hml]; rfl) (ps := []) (r := (some .boolean)) (by decide +kernel) rfl rfl (W := 0) (by show 2 * 0 + _ ≤ _; exact Nat.le_of_eq rfl) (hb hby at_31) (by decide) (by decide) (by decide) (by decide)
    have N13 := Fr.app N12 (Fr.nil n0)
    refine own_go st13 ?_
    show own_G p e below _ T13 (mkF m 34 #[.val (.int i0), .val (.int (5 : Int32)), .val (.ref a_DELETE), .val (.int (1 : Int32))] [(.int (own_has a_DELETE (107 : Int32)))])
    have r13 : (own_has a_DELETE (107 : Int32)) = (1 : Int32) := by unfold own_has; rw [if_neg (show ¬ ((107 : Int32) < (0 : Int32)) by decide)]; rfl
    rw [r13]
    show own_G p e below _ T13 (mkF m 34 #[.val (.int i0), .val (.int (5 : Int32)), .val (.ref a_DELETE), .val (.int (1 : Int32))] [(.int (1 : Int32))])
    refine own_go (fun t k => XS.iloadN X13.here hx rfl (hb hby at_34) rfl k) ?_
    show own_G p e below _ T13 (mkF m 35 #[.val (.int i0), .val (.int (5 : Int32)), .val (.ref a_DELETE), .val (.int (1 : Int32))] [(.int (1 : Int32)), (.int (1 : Int32))])
    refine own_go (fun t k => XS.icmpNo X13.here hx rfl (hb hby at_35) rfl (by decide) k) ?_
    show own_G p e below _ T13 (mkF m 38 #[.val (.int i0), .val (.int (5 : Int32)), .val (.ref a_DELETE), .val (.int (1 : Int32))] [])
    refine own_go (fun t k => XS.iconst X13.here hx rfl (hb hby at_38) k) ?_
    show own_G p e below _ T13 (mkF m 39 #[.val (.int i0), .val (.int (5 : Int32)), .val (.ref a_DELETE), .val (.int (1 : Int32))] [(.int (1 : Int32))])
    refine own_go (fun t k => XS.goto X13.here hx rfl (pc0 := 39) (pc' := 43) rfl (hb hby at_39) (by decide) (by decide) k) ?_
    show own_G p e below _ T13 (mkF m 43 #[.val (.int i0), .val (.int (5 : Int32)), .val (.ref a_DELETE), .val (.int (1 : Int32))] [(.int (1 : Int32))])
    exact own_retN X13 hx hlk hret (by simp) (hb hby at_43) (by decide) (by decide) ⟨rfl, N13⟩
  · rw [hk1]
    show own_G p e below _ T0 (mkF m 7 #[.val (.int i0), .unset, .unset, .unset] [(.int (6 : Int32))])
    refine own_go (fun t k => XS.istoreN X0.here hx rfl (hb hby at_7) rfl (l' := #[.val (.int i0), .val (.int (6 : Int32)), .unset, .unset]) rfl k) ?_
    show own_G p e below _ T0 (mkF m 8 #[.val (.int i0), .val (.int (6 : Int32)), .unset, .unset] [])
    refine own_go (fun t k => XS.iloadN X0.here hx rfl (hb hby at_8) rfl k) ?_
    show own_G p e below _ T0 (mkF m 9 #[.val (.int i0), .val (.int (6 : Int32)), .unset, .unset] [(.int (6 : Int32))])
    obtain ⟨T14, L14, v14, X14, ⟨rfl, rfl, q14⟩, st14⟩ := own_callS X0 hx hZ (y := (⟨"com/example/canonry/canonry/OperationHasResponsePinLaw", "pick", "(I)Lcom/example/canonry/canonry/Operation;"⟩ : MethodName)) hown (hw _ (List.mem_of_getElem? (i := 1) rfl)) (hw _ (List.mem_of_getElem? (i := 2) rfl)) (hw _ (List.mem_of_getElem? (i := 3) rfl)) (hw _ (List.mem_of_getElem? (i := 4) rfl)) (by decide) (c_pick l Z a0 hw a_BIND a_MODIFY a_UNBIND a_ADD a_COMPARE a_SEARCH a_ABANDON a_EXTENDED a_DELETE a_MODIFY_DN (6 : Int32) h0 B ) e0 (argsL := [(.int (6 : Int32))]) (rest := []) (g := (mkF m 9 #[.val (.int i0), .val (.int (6 : Int32)), .unset, .unset] [(.int (6 : Int32))])) rfl (by rw [hml]; rfl) (ps := [.int]) (r := (some (.object "com/example/canonry/canonry/Operation"))) (by decide +kernel) rfl rfl (W := 0) (by show 2 * 0 + _ ≤ _; exact Nat.le_of_eq rfl) (hb hby at_9) (by decide) (by decide) (by decide) (by decide)
    have N14 := Fr.app N0 (Fr.nil n0)
    refine own_go st14 ?_
    show own_G p e below _ T14 (mkF m 12 #[.val (.int i0), .val (.int (6 : Int32)), .unset, .unset] [(.ref (own_pick a_BIND a_MODIFY a_UNBIND a_ADD a_COMPARE a_SEARCH a_ABANDON a_EXTENDED a_DELETE a_MODIFY_DN (6 : Int32)))])
    have r14 : (own_pick a_BIND a_MODIFY a_UNBIND a_ADD a_COMPARE a_SEARCH a_ABANDON a_EXTENDED a_DELETE a_MODIFY_DN (6 : Int32)) = a_MODIFY_DN := by unfold own_pick; rw [if_neg (show ¬ ((6 : Int32) = (0 : Int32)) by decide), if_neg (show ¬ ((6 : Int32) = (1 : Int32)) by decide), if_neg (show ¬ ((6 : Int32) = (2 : Int32)) by decide), if_neg (show ¬ ((6 : Int32) = (3 : Int32)) by decide), if_neg (show ¬ ((6 : Int32) = (4 : Int32)) by decide), if_neg (show ¬ ((6 : Int32) = (5 : Int32)) by decide), if_pos (show ((6 : Int32) = (6 : Int32)) by decide)]
    rw [r14]
    show own_G p e below _ T14 (mkF m 12 #[.val (.int i0), .val (.int (6 : Int32)), .unset, .unset] [(.ref a_MODIFY_DN)])
    refine own_go (fun t k => XS.astoreN X14.here hx rfl (hb hby at_12) rfl rfl (l' := #[.val (.int i0), .val (.int (6 : Int32)), .val (.ref a_MODIFY_DN), .unset]) rfl k) ?_
    show own_G p e below _ T14 (mkF m 13 #[.val (.int i0), .val (.int (6 : Int32)), .val (.ref a_MODIFY_DN), .unset] [])
    refine own_go (fun t k => XS.iloadN X14.here hx rfl (hb hby at_13) rfl k) ?_
    show own_G p e below _ T14 (mkF m 14 #[.val (.int i0), .val (.int (6 : Int32)), .val (.ref a_MODIFY_DN), .unset] [(.int (6 : Int32))])
    refine own_go (fun t k => XS.iconst X14.here hx rfl (hb hby at_14) k) ?_
    show own_G p e below _ T14 (mkF m 15 #[.val (.int i0), .val (.int (6 : Int32)), .val (.ref a_MODIFY_DN), .unset] [(.int (1 : Int32)), (.int (6 : Int32))])
    refine own_go (fun t k => XS.icmpNo X14.here hx rfl (hb hby at_15) rfl (by decide) k) ?_
    show own_G p e below _ T14 (mkF m 18 #[.val (.int i0), .val (.int (6 : Int32)), .val (.ref a_MODIFY_DN), .unset] [])
    refine own_go (fun t k => XS.iloadN X14.here hx rfl (hb hby at_18) rfl k) ?_
    show own_G p e below _ T14 (mkF m 19 #[.val (.int i0), .val (.int (6 : Int32)), .val (.ref a_MODIFY_DN), .unset] [(.int (6 : Int32))])
    refine own_go (fun t k => XS.bipush X14.here hx rfl (hb hby at_19) k) ?_
    show own_G p e below _ T14 (mkF m 21 #[.val (.int i0), .val (.int (6 : Int32)), .val (.ref a_MODIFY_DN), .unset] [(.int (8 : Int32)), (.int (6 : Int32))])
    refine own_go (fun t k => XS.icmpNo X14.here hx rfl (hb hby at_21) rfl (by decide) k) ?_
    show own_G p e below _ T14 (mkF m 24 #[.val (.int i0), .val (.int (6 : Int32)), .val (.ref a_MODIFY_DN), .unset] [])
    refine own_go (fun t k => XS.iconst X14.here hx rfl (hb hby at_24) k) ?_
    show own_G p e below _ T14 (mkF m 25 #[.val (.int i0), .val (.int (6 : Int32)), .val (.ref a_MODIFY_DN), .unset] [(.int (1 : Int32))])
    refine own_go (fun t k => XS.goto X14.here hx rfl (pc0 := 25) (pc' := 29) rfl (hb hby at_25) (by decide) (by decide) k) ?_
    show own_G p e below _ T14 (mkF m 29 #[.val (.int i0), .val (.int (6 : Int32)), .val (.ref a_MODIFY_DN), .unset] [(.int (1 : Int32))])
    refine own_go (fun t k => XS.istoreN X14.here hx rfl (hb hby at_29) rfl (l' := #[.val (.int i0), .val (.int (6 : Int32)), .val (.ref a_MODIFY_DN), .val (.int (1 : Int32))]) rfl k) ?_
    show own_G p e below _ T14 (mkF m 30 #[.val (.int i0), .val (.int (6 : Int32)), .val (.ref a_MODIFY_DN), .val (.int (1 : Int32))] [])
    refine own_go (fun t k => XS.aloadN X14.here hx rfl (hb hby at_30) rfl rfl k) ?_
    show own_G p e below _ T14 (mkF m 31 #[.val (.int i0), .val (.int (6 : Int32)), .val (.ref a_MODIFY_DN), .val (.int (1 : Int32))] [(.ref a_MODIFY_DN)])
    obtain ⟨T15, L15, v15, X15, ⟨rfl, rfl, q15⟩, st15⟩ := own_callV X14 hx hZ (y := (⟨"com/example/canonry/canonry/Operation", "hasResponse", "()Z"⟩ : MethodName)) (z := (⟨"com/example/canonry/canonry/Operation", "hasResponse", "()Z"⟩ : MethodName)) hown (hw _ (List.mem_of_getElem? (i := 8) rfl)) (hw _ (List.mem_of_getElem? (i := 9) rfl)) (hw _ (List.mem_of_getElem? (i := 11) rfl)) (hw _ (List.mem_of_getElem? (i := 11) rfl)) (hw _ (List.mem_of_getElem? (i := 10) rfl)) (hw _ (List.mem_of_getElem? (i := 12) rfl)) (hw _ (List.mem_of_getElem? (i := 6) rfl)) (notFace_of_selects (args := #[]) (mvT hZ (hw _ (List.mem_of_getElem? (i := 11) rfl)))) (by decide) (c_has l Z a0 hw a_MODIFY_DN (109 : Int32) h0  F_MODIFY_DN_responseTag) q14 E_MODIFY_DN (argsL := []) (rest := []) (g := (mkF m 31 #[.val (.int i0), .val (.int (6 : Int32)), .val (.ref a_MODIFY_DN), .val (.int (1 : Int32))] [(.ref a_MODIFY_DN)])) rfl (by rw [hml]; rfl) (ps := []) (r := (some .boolean)) (by decide +kernel) rfl rfl (W := 0) (by show 2 * 0 + _ ≤ _; exact Nat.le_of_eq rfl) (hb hby at_31) (by decide) (by decide) (by decide) (by decide)
    have N15 := Fr.app N14 (Fr.nil n0)
    refine own_go st15 ?_
    show own_G p e below _ T15 (mkF m 34 #[.val (.int i0), .val (.int (6 : Int32)), .val (.ref a_MODIFY_DN), .val (.int (1 : Int32))] [(.int (own_has a_MODIFY_DN (109 : Int32)))])
    have r15 : (own_has a_MODIFY_DN (109 : Int32)) = (1 : Int32) := by unfold own_has; rw [if_neg (show ¬ ((109 : Int32) < (0 : Int32)) by decide)]; rfl
    rw [r15]
    show own_G p e below _ T15 (mkF m 34 #[.val (.int i0), .val (.int (6 : Int32)), .val (.ref a_MODIFY_DN), .val (.int (1 : Int32))] [(.int (1 : Int32))])
    refine own_go (fun t k => XS.iloadN X15.here hx rfl (hb hby at_34) rfl k) ?_
    show own_G p e below _ T15 (mkF m 35 #[.val (.int i0), .val (.int (6 : Int32)), .val (.ref a_MODIFY_DN), .val (.int (1 : Int32))] [(.int (1 : Int32)), (.int (1 : Int32))])
    refine own_go (fun t k => XS.icmpNo X15.here hx rfl (hb hby at_35) rfl (by decide) k) ?_
    show own_G p e below _ T15 (mkF m 38 #[.val (.int i0), .val (.int (6 : Int32)), .val (.ref a_MODIFY_DN), .val (.int (1 : Int32))] [])
    refine own_go (fun t k => XS.iconst X15.here hx rfl (hb hby at_38) k) ?_
    show own_G p e below _ T15 (mkF m 39 #[.val (.int i0), .val (.int (6 : Int32)), .val (.ref a_MODIFY_DN), .val (.int (1 : Int32))] [(.int (1 : Int32))])
    refine own_go (fun t k => XS.goto X15.here hx rfl (pc0 := 39) (pc' := 43) rfl (hb hby at_39) (by decide) (by decide) k) ?_
    show own_G p e below _ T15 (mkF m 43 #[.val (.int i0), .val (.int (6 : Int32)), .val (.ref a_MODIFY_DN), .val (.int (1 : Int32))] [(.int (1 : Int32))])
    exact own_retN X15 hx hlk hret (by simp) (hb hby at_43) (by decide) (by decide) ⟨rfl, N15⟩
  · rw [hk1]
    show own_G p e below _ T0 (mkF m 7 #[.val (.int i0), .unset, .unset, .unset] [(.int (7 : Int32))])
    refine own_go (fun t k => XS.istoreN X0.here hx rfl (hb hby at_7) rfl (l' := #[.val (.int i0), .val (.int (7 : Int32)), .unset, .unset]) rfl k) ?_
    show own_G p e below _ T0 (mkF m 8 #[.val (.int i0), .val (.int (7 : Int32)), .unset, .unset] [])
    refine own_go (fun t k => XS.iloadN X0.here hx rfl (hb hby at_8) rfl k) ?_
    show own_G p e below _ T0 (mkF m 9 #[.val (.int i0), .val (.int (7 : Int32)), .unset, .unset] [(.int (7 : Int32))])
    obtain ⟨T16, L16, v16, X16, ⟨rfl, rfl, q16⟩, st16⟩ := own_callS X0 hx hZ (y := (⟨"com/example/canonry/canonry/OperationHasResponsePinLaw", "pick", "(I)Lcom/example/canonry/canonry/Operation;"⟩ : MethodName)) hown (hw _ (List.mem_of_getElem? (i := 1) rfl)) (hw _ (List.mem_of_getElem? (i := 2) rfl)) (hw _ (List.mem_of_getElem? (i := 3) rfl)) (hw _ (List.mem_of_getElem? (i := 4) rfl)) (by decide) (c_pick l Z a0 hw a_BIND a_MODIFY a_UNBIND a_ADD a_COMPARE a_SEARCH a_ABANDON a_EXTENDED a_DELETE a_MODIFY_DN (7 : Int32) h0 B ) e0 (argsL := [(.int (7 : Int32))]) (rest := []) (g := (mkF m 9 #[.val (.int i0), .val (.int (7 : Int32)), .unset, .unset] [(.int (7 : Int32))])) rfl (by rw [hml]; rfl) (ps := [.int]) (r := (some (.object "com/example/canonry/canonry/Operation"))) (by decide +kernel) rfl rfl (W := 0) (by show 2 * 0 + _ ≤ _; exact Nat.le_of_eq rfl) (hb hby at_9) (by decide) (by decide) (by decide) (by decide)
    have N16 := Fr.app N0 (Fr.nil n0)
    refine own_go st16 ?_
    show own_G p e below _ T16 (mkF m 12 #[.val (.int i0), .val (.int (7 : Int32)), .unset, .unset] [(.ref (own_pick a_BIND a_MODIFY a_UNBIND a_ADD a_COMPARE a_SEARCH a_ABANDON a_EXTENDED a_DELETE a_MODIFY_DN (7 : Int32)))])
    have r16 : (own_pick a_BIND a_MODIFY a_UNBIND a_ADD a_COMPARE a_SEARCH a_ABANDON a_EXTENDED a_DELETE a_MODIFY_DN (7 : Int32)) = a_COMPARE := by unfold own_pick; rw [if_neg (show ¬ ((7 : Int32) = (0 : Int32)) by decide), if_neg (show ¬ ((7 : Int32) = (1 : Int32)) by decide), if_neg (show ¬ ((7 : Int32) = (2 : Int32)) by decide), if_neg (show ¬ ((7 : Int32) = (3 : Int32)) by decide), if_neg (show ¬ ((7 : Int32) = (4 : Int32)) by decide), if_neg (show ¬ ((7 : Int32) = (5 : Int32)) by decide), if_neg (show ¬ ((7 : Int32) = (6 : Int32)) by decide), if_pos (show ((7 : Int32) = (7 : Int32)) by decide)]
    rw [r16]
    show own_G p e below _ T16 (mkF m 12 #[.val (.int i0), .val (.int (7 : Int32)), .unset, .unset] [(.ref a_COMPARE)])
    refine own_go (fun t k => XS.astoreN X16.here hx rfl (hb hby at_12) rfl rfl (l' := #[.val (.int i0), .val (.int (7 : Int32)), .val (.ref a_COMPARE), .unset]) rfl k) ?_
    show own_G p e below _ T16 (mkF m 13 #[.val (.int i0), .val (.int (7 : Int32)), .val (.ref a_COMPARE), .unset] [])
    refine own_go (fun t k => XS.iloadN X16.here hx rfl (hb hby at_13) rfl k) ?_
    show own_G p e below _ T16 (mkF m 14 #[.val (.int i0), .val (.int (7 : Int32)), .val (.ref a_COMPARE), .unset] [(.int (7 : Int32))])
    refine own_go (fun t k => XS.iconst X16.here hx rfl (hb hby at_14) k) ?_
    show own_G p e below _ T16 (mkF m 15 #[.val (.int i0), .val (.int (7 : Int32)), .val (.ref a_COMPARE), .unset] [(.int (1 : Int32)), (.int (7 : Int32))])
    refine own_go (fun t k => XS.icmpNo X16.here hx rfl (hb hby at_15) rfl (by decide) k) ?_
    show own_G p e below _ T16 (mkF m 18 #[.val (.int i0), .val (.int (7 : Int32)), .val (.ref a_COMPARE), .unset] [])
    refine own_go (fun t k => XS.iloadN X16.here hx rfl (hb hby at_18) rfl k) ?_
    show own_G p e below _ T16 (mkF m 19 #[.val (.int i0), .val (.int (7 : Int32)), .val (.ref a_COMPARE), .unset] [(.int (7 : Int32))])
    refine own_go (fun t k => XS.bipush X16.here hx rfl (hb hby at_19) k) ?_
    show own_G p e below _ T16 (mkF m 21 #[.val (.int i0), .val (.int (7 : Int32)), .val (.ref a_COMPARE), .unset] [(.int (8 : Int32)), (.int (7 : Int32))])
    refine own_go (fun t k => XS.icmpNo X16.here hx rfl (hb hby at_21) rfl (by decide) k) ?_
    show own_G p e below _ T16 (mkF m 24 #[.val (.int i0), .val (.int (7 : Int32)), .val (.ref a_COMPARE), .unset] [])
    refine own_go (fun t k => XS.iconst X16.here hx rfl (hb hby at_24) k) ?_
    show own_G p e below _ T16 (mkF m 25 #[.val (.int i0), .val (.int (7 : Int32)), .val (.ref a_COMPARE), .unset] [(.int (1 : Int32))])
    refine own_go (fun t k => XS.goto X16.here hx rfl (pc0 := 25) (pc' := 29) rfl (hb hby at_25) (by decide) (by decide) k) ?_
    show own_G p e below _ T16 (mkF m 29 #[.val (.int i0), .val (.int (7 : Int32)), .val (.ref a_COMPARE), .unset] [(.int (1 : Int32))])
    refine own_go (fun t k => XS.istoreN X16.here hx rfl (hb hby at_29) rfl (l' := #[.val (.int i0), .val (.int (7 : Int32)), .val (.ref a_COMPARE), .val (.int (1 : Int32))]) rfl k) ?_
    show own_G p e below _ T16 (mkF m 30 #[.val (.int i0), .val (.int (7 : Int32)), .val (.ref a_COMPARE), .val (.int (1 : Int32))] [])
    refine own_go (fun t k => XS.aloadN X16.here hx rfl (hb hby at_30) rfl rfl k) ?_
    show own_G p e below _ T16 (mkF m 31 #[.val (.int i0), .val (.int (7 : Int32)), .val (.ref a_COMPARE), .val (.int (1 : Int32))] [(.ref a_COMPARE)])
    obtain ⟨T17, L17, v17, X17, ⟨rfl, rfl, q17⟩, st17⟩ := own_callV X16 hx hZ (y := (⟨"com/example/canonry/canonry/Operation", "hasResponse", "()Z"⟩ : MethodName)) (z := (⟨"com/example/canonry/canonry/Operation", "hasResponse", "()Z"⟩ : MethodName)) hown (hw _ (List.mem_of_getElem? (i := 8) rfl)) (hw _ (List.mem_of_getElem? (i := 9) rfl)) (hw _ (List.mem_of_getElem? (i := 11) rfl)) (hw _ (List.mem_of_getElem? (i := 11) rfl)) (hw _ (List.mem_of_getElem? (i := 10) rfl)) (hw _ (List.mem_of_getElem? (i := 12) rfl)) (hw _ (List.mem_of_getElem? (i := 6) rfl)) (notFace_of_selects (args := #[]) (mvT hZ (hw _ (List.mem_of_getElem? (i := 11) rfl)))) (by decide) (c_has l Z a0 hw a_COMPARE (111 : Int32) h0  F_COMPARE_responseTag) q16 E_COMPARE (argsL := []) (rest := []) (g := (mkF m 31 #[.val (.int i0), .val (.int (7 : Int32)), .val (.ref a_COMPARE), .val (.int (1 : Int32))] [(.ref a_COMPARE)])) rfl (by rw [hml]; rfl) (ps := []) (r := (some .boolean)) (by decide +kernel) rfl rfl (W := 0) (by show 2 * 0 + _ ≤ _; exact Nat.le_of_eq rfl) (hb hby at_31) (by decide) (by decide) (by decide) (by decide)
    have N17 := Fr.app N16 (Fr.nil n0)
    refine own_go st17 ?_
    show own_G p e below _ T17 (mkF m 34 #[.val (.int i0), .val (.int (7 : Int32)), .val (.ref a_COMPARE), .val (.int (1 : Int32))] [(.int (own_has a_COMPARE (111 : Int32)))])
    have r17 : (own_has a_COMPARE (111 : Int32)) = (1 : Int32) := by unfold own_has; rw [if_neg (show ¬ ((111 : Int32) < (0 : Int32)) by decide)]; rfl
    rw [r17]
    show own_G p e below _ T17 (mkF m 34 #[.val (.int i0), .val (.int (7 : Int32)), .val (.ref a_COMPARE), .val (.int (1 : Int32))] [(.int (1 : Int32))])
    refine own_go (fun t k => XS.iloadN X17.here hx rfl (hb hby at_34) rfl k) ?_
    show own_G p e below _ T17 (mkF m 35 #[.val (.int i0), .val (.int (7 : Int32)), .val (.ref a_COMPARE), .val (.int (1 : Int32))] [(.int (1 : Int32)), (.int (1 : Int32))])
    refine own_go (fun t k => XS.icmpNo X17.here hx rfl (hb hby at_35) rfl (by decide) k) ?_
    show own_G p e below _ T17 (mkF m 38 #[.val (.int i0), .val (.int (7 : Int32)), .val (.ref a_COMPARE), .val (.int (1 : Int32))] [])
    refine own_go (fun t k => XS.iconst X17.here hx rfl (hb hby at_38) k) ?_
    show own_G p e below _ T17 (mkF m 39 #[.val (.int i0), .val (.int (7 : Int32)), .val (.ref a_COMPARE), .val (.int (1 : Int32))] [(.int (1 : Int32))])
    refine own_go (fun t k => XS.goto X17.here hx rfl (pc0 := 39) (pc' := 43) rfl (hb hby at_39) (by decide) (by decide) k) ?_
    show own_G p e below _ T17 (mkF m 43 #[.val (.int i0), .val (.int (7 : Int32)), .val (.ref a_COMPARE), .val (.int (1 : Int32))] [(.int (1 : Int32))])
    exact own_retN X17 hx hlk hret (by simp) (hb hby at_43) (by decide) (by decide) ⟨rfl, N17⟩
  · rw [hk1]
    show own_G p e below _ T0 (mkF m 7 #[.val (.int i0), .unset, .unset, .unset] [(.int (8 : Int32))])
    refine own_go (fun t k => XS.istoreN X0.here hx rfl (hb hby at_7) rfl (l' := #[.val (.int i0), .val (.int (8 : Int32)), .unset, .unset]) rfl k) ?_
    show own_G p e below _ T0 (mkF m 8 #[.val (.int i0), .val (.int (8 : Int32)), .unset, .unset] [])
    refine own_go (fun t k => XS.iloadN X0.here hx rfl (hb hby at_8) rfl k) ?_
    show own_G p e below _ T0 (mkF m 9 #[.val (.int i0), .val (.int (8 : Int32)), .unset, .unset] [(.int (8 : Int32))])
    obtain ⟨T18, L18, v18, X18, ⟨rfl, rfl, q18⟩, st18⟩ := own_callS X0 hx hZ (y := (⟨"com/example/canonry/canonry/OperationHasResponsePinLaw", "pick", "(I)Lcom/example/canonry/canonry/Operation;"⟩ : MethodName)) hown (hw _ (List.mem_of_getElem? (i := 1) rfl)) (hw _ (List.mem_of_getElem? (i := 2) rfl)) (hw _ (List.mem_of_getElem? (i := 3) rfl)) (hw _ (List.mem_of_getElem? (i := 4) rfl)) (by decide) (c_pick l Z a0 hw a_BIND a_MODIFY a_UNBIND a_ADD a_COMPARE a_SEARCH a_ABANDON a_EXTENDED a_DELETE a_MODIFY_DN (8 : Int32) h0 B ) e0 (argsL := [(.int (8 : Int32))]) (rest := []) (g := (mkF m 9 #[.val (.int i0), .val (.int (8 : Int32)), .unset, .unset] [(.int (8 : Int32))])) rfl (by rw [hml]; rfl) (ps := [.int]) (r := (some (.object "com/example/canonry/canonry/Operation"))) (by decide +kernel) rfl rfl (W := 0) (by show 2 * 0 + _ ≤ _; exact Nat.le_of_eq rfl) (hb hby at_9) (by decide) (by decide) (by decide) (by decide)
    have N18 := Fr.app N0 (Fr.nil n0)
    refine own_go st18 ?_
    show own_G p e below _ T18 (mkF m 12 #[.val (.int i0), .val (.int (8 : Int32)), .unset, .unset] [(.ref (own_pick a_BIND a_MODIFY a_UNBIND a_ADD a_COMPARE a_SEARCH a_ABANDON a_EXTENDED a_DELETE a_MODIFY_DN (8 : Int32)))])
    have r18 : (own_pick a_BIND a_MODIFY a_UNBIND a_ADD a_COMPARE a_SEARCH a_ABANDON a_EXTENDED a_DELETE a_MODIFY_DN (8 : Int32)) = a_ABANDON := by unfold own_pick; rw [if_neg (show ¬ ((8 : Int32) = (0 : Int32)) by decide), if_neg (show ¬ ((8 : Int32) = (1 : Int32)) by decide), if_neg (show ¬ ((8 : Int32) = (2 : Int32)) by decide), if_neg (show ¬ ((8 : Int32) = (3 : Int32)) by decide), if_neg (show ¬ ((8 : Int32) = (4 : Int32)) by decide), if_neg (show ¬ ((8 : Int32) = (5 : Int32)) by decide), if_neg (show ¬ ((8 : Int32) = (6 : Int32)) by decide), if_neg (show ¬ ((8 : Int32) = (7 : Int32)) by decide), if_pos (show ((8 : Int32) = (8 : Int32)) by decide)]
    rw [r18]
    show own_G p e below _ T18 (mkF m 12 #[.val (.int i0), .val (.int (8 : Int32)), .unset, .unset] [(.ref a_ABANDON)])
    refine own_go (fun t k => XS.astoreN X18.here hx rfl (hb hby at_12) rfl rfl (l' := #[.val (.int i0), .val (.int (8 : Int32)), .val (.ref a_ABANDON), .unset]) rfl k) ?_
    show own_G p e below _ T18 (mkF m 13 #[.val (.int i0), .val (.int (8 : Int32)), .val (.ref a_ABANDON), .unset] [])
    refine own_go (fun t k => XS.iloadN X18.here hx rfl (hb hby at_13) rfl k) ?_
    show own_G p e below _ T18 (mkF m 14 #[.val (.int i0), .val (.int (8 : Int32)), .val (.ref a_ABANDON), .unset] [(.int (8 : Int32))])
    refine own_go (fun t k => XS.iconst X18.here hx rfl (hb hby at_14) k) ?_
    show own_G p e below _ T18 (mkF m 15 #[.val (.int i0), .val (.int (8 : Int32)), .val (.ref a_ABANDON), .unset] [(.int (1 : Int32)), (.int (8 : Int32))])
    refine own_go (fun t k => XS.icmpNo X18.here hx rfl (hb hby at_15) rfl (by decide) k) ?_
    show own_G p e below _ T18 (mkF m 18 #[.val (.int i0), .val (.int (8 : Int32)), .val (.ref a_ABANDON), .unset] [])
    refine own_go (fun t k => XS.iloadN X18.here hx rfl (hb hby at_18) rfl k) ?_
    show own_G p e below _ T18 (mkF m 19 #[.val (.int i0), .val (.int (8 : Int32)), .val (.ref a_ABANDON), .unset] [(.int (8 : Int32))])
    refine own_go (fun t k => XS.bipush X18.here hx rfl (hb hby at_19) k) ?_
    show own_G p e below _ T18 (mkF m 21 #[.val (.int i0), .val (.int (8 : Int32)), .val (.ref a_ABANDON), .unset] [(.int (8 : Int32)), (.int (8 : Int32))])
    refine own_go (fun t k => XS.icmpYes X18.here hx rfl (pc0 := 21) (pc' := 28) rfl (hb hby at_21) rfl (by decide) (by decide) (by decide) k) ?_
    show own_G p e below _ T18 (mkF m 28 #[.val (.int i0), .val (.int (8 : Int32)), .val (.ref a_ABANDON), .unset] [])
    refine own_go (fun t k => XS.iconst X18.here hx rfl (hb hby at_28) k) ?_
    show own_G p e below _ T18 (mkF m 29 #[.val (.int i0), .val (.int (8 : Int32)), .val (.ref a_ABANDON), .unset] [(.int (0 : Int32))])
    refine own_go (fun t k => XS.istoreN X18.here hx rfl (hb hby at_29) rfl (l' := #[.val (.int i0), .val (.int (8 : Int32)), .val (.ref a_ABANDON), .val (.int (0 : Int32))]) rfl k) ?_
    show own_G p e below _ T18 (mkF m 30 #[.val (.int i0), .val (.int (8 : Int32)), .val (.ref a_ABANDON), .val (.int (0 : Int32))] [])
    refine own_go (fun t k => XS.aloadN X18.here hx rfl (hb hby at_30) rfl rfl k) ?_
    show own_G p e below _ T18 (mkF m 31 #[.val (.int i0), .val (.int (8 : Int32)), .val (.ref a_ABANDON), .val (.int (0 : Int32))] [(.ref a_ABANDON)])
    obtain ⟨T19, L19, v19, X19, ⟨rfl, rfl, q19⟩, st19⟩ := own_callV X18 hx hZ (y := (⟨"com/example/canonry/canonry/Operation", "hasResponse", "()Z"⟩ : MethodName)) (z := (⟨"com/example/canonry/canonry/Operation", "hasResponse", "()Z"⟩ : MethodName)) hown (hw _ (List.mem_of_getElem? (i := 8) rfl)) (hw _ (List.mem_of_getElem? (i := 9) rfl)) (hw _ (List.mem_of_getElem? (i := 11) rfl)) (hw _ (List.mem_of_getElem? (i := 11) rfl)) (hw _ (List.mem_of_getElem? (i := 10) rfl)) (hw _ (List.mem_of_getElem? (i := 12) rfl)) (hw _ (List.mem_of_getElem? (i := 6) rfl)) (notFace_of_selects (args := #[]) (mvT hZ (hw _ (List.mem_of_getElem? (i := 11) rfl)))) (by decide) (c_has l Z a0 hw a_ABANDON (-1 : Int32) h0  F_ABANDON_responseTag) q18 E_ABANDON (argsL := []) (rest := []) (g := (mkF m 31 #[.val (.int i0), .val (.int (8 : Int32)), .val (.ref a_ABANDON), .val (.int (0 : Int32))] [(.ref a_ABANDON)])) rfl (by rw [hml]; rfl) (ps := []) (r := (some .boolean)) (by decide +kernel) rfl rfl (W := 0) (by show 2 * 0 + _ ≤ _; exact Nat.le_of_eq rfl) (hb hby at_31) (by decide) (by decide) (by decide) (by decide)
    have N19 := Fr.app N18 (Fr.nil n0)
    refine own_go st19 ?_
    show own_G p e below _ T19 (mkF m 34 #[.val (.int i0), .val (.int (8 : Int32)), .val (.ref a_ABANDON), .val (.int (0 : Int32))] [(.int (own_has a_ABANDON (-1 : Int32)))])
    have r19 : (own_has a_ABANDON (-1 : Int32)) = (0 : Int32) := by unfold own_has; rw [if_pos (show ((-1 : Int32) < (0 : Int32)) by decide)]; rfl
    rw [r19]
    show own_G p e below _ T19 (mkF m 34 #[.val (.int i0), .val (.int (8 : Int32)), .val (.ref a_ABANDON), .val (.int (0 : Int32))] [(.int (0 : Int32))])
    refine own_go (fun t k => XS.iloadN X19.here hx rfl (hb hby at_34) rfl k) ?_
    show own_G p e below _ T19 (mkF m 35 #[.val (.int i0), .val (.int (8 : Int32)), .val (.ref a_ABANDON), .val (.int (0 : Int32))] [(.int (0 : Int32)), (.int (0 : Int32))])
    refine own_go (fun t k => XS.icmpNo X19.here hx rfl (hb hby at_35) rfl (by decide) k) ?_
    show own_G p e below _ T19 (mkF m 38 #[.val (.int i0), .val (.int (8 : Int32)), .val (.ref a_ABANDON), .val (.int (0 : Int32))] [])
    refine own_go (fun t k => XS.iconst X19.here hx rfl (hb hby at_38) k) ?_
    show own_G p e below _ T19 (mkF m 39 #[.val (.int i0), .val (.int (8 : Int32)), .val (.ref a_ABANDON), .val (.int (0 : Int32))] [(.int (1 : Int32))])
    refine own_go (fun t k => XS.goto X19.here hx rfl (pc0 := 39) (pc' := 43) rfl (hb hby at_39) (by decide) (by decide) k) ?_
    show own_G p e below _ T19 (mkF m 43 #[.val (.int i0), .val (.int (8 : Int32)), .val (.ref a_ABANDON), .val (.int (0 : Int32))] [(.int (1 : Int32))])
    exact own_retN X19 hx hlk hret (by simp) (hb hby at_43) (by decide) (by decide) ⟨rfl, N19⟩
  · rw [hk1]
    show own_G p e below _ T0 (mkF m 7 #[.val (.int i0), .unset, .unset, .unset] [(.int (9 : Int32))])
    refine own_go (fun t k => XS.istoreN X0.here hx rfl (hb hby at_7) rfl (l' := #[.val (.int i0), .val (.int (9 : Int32)), .unset, .unset]) rfl k) ?_
    show own_G p e below _ T0 (mkF m 8 #[.val (.int i0), .val (.int (9 : Int32)), .unset, .unset] [])
    refine own_go (fun t k => XS.iloadN X0.here hx rfl (hb hby at_8) rfl k) ?_
    show own_G p e below _ T0 (mkF m 9 #[.val (.int i0), .val (.int (9 : Int32)), .unset, .unset] [(.int (9 : Int32))])
    obtain ⟨T20, L20, v20, X20, ⟨rfl, rfl, q20⟩, st20⟩ := own_callS X0 hx hZ (y := (⟨"com/example/canonry/canonry/OperationHasResponsePinLaw", "pick", "(I)Lcom/example/canonry/canonry/Operation;"⟩ : MethodName)) hown (hw _ (List.mem_of_getElem? (i := 1) rfl)) (hw _ (List.mem_of_getElem? (i := 2) rfl)) (hw _ (List.mem_of_getElem? (i := 3) rfl)) (hw _ (List.mem_of_getElem? (i := 4) rfl)) (by decide) (c_pick l Z a0 hw a_BIND a_MODIFY a_UNBIND a_ADD a_COMPARE a_SEARCH a_ABANDON a_EXTENDED a_DELETE a_MODIFY_DN (9 : Int32) h0 B ) e0 (argsL := [(.int (9 : Int32))]) (rest := []) (g := (mkF m 9 #[.val (.int i0), .val (.int (9 : Int32)), .unset, .unset] [(.int (9 : Int32))])) rfl (by rw [hml]; rfl) (ps := [.int]) (r := (some (.object "com/example/canonry/canonry/Operation"))) (by decide +kernel) rfl rfl (W := 0) (by show 2 * 0 + _ ≤ _; exact Nat.le_of_eq rfl) (hb hby at_9) (by decide) (by decide) (by decide) (by decide)
    have N20 := Fr.app N0 (Fr.nil n0)
    refine own_go st20 ?_
    show own_G p e below _ T20 (mkF m 12 #[.val (.int i0), .val (.int (9 : Int32)), .unset, .unset] [(.ref (own_pick a_BIND a_MODIFY a_UNBIND a_ADD a_COMPARE a_SEARCH a_ABANDON a_EXTENDED a_DELETE a_MODIFY_DN (9 : Int32)))])
    have r20 : (own_pick a_BIND a_MODIFY a_UNBIND a_ADD a_COMPARE a_SEARCH a_ABANDON a_EXTENDED a_DELETE a_MODIFY_DN (9 : Int32)) = a_EXTENDED := by unfold own_pick; rw [if_neg (show ¬ ((9 : Int32) = (0 : Int32)) by decide), if_neg (show ¬ ((9 : Int32) = (1 : Int32)) by decide), if_neg (show ¬ ((9 : Int32) = (2 : Int32)) by decide), if_neg (show ¬ ((9 : Int32) = (3 : Int32)) by decide), if_neg (show ¬ ((9 : Int32) = (4 : Int32)) by decide), if_neg (show ¬ ((9 : Int32) = (5 : Int32)) by decide), if_neg (show ¬ ((9 : Int32) = (6 : Int32)) by decide), if_neg (show ¬ ((9 : Int32) = (7 : Int32)) by decide), if_neg (show ¬ ((9 : Int32) = (8 : Int32)) by decide)]
    rw [r20]
    show own_G p e below _ T20 (mkF m 12 #[.val (.int i0), .val (.int (9 : Int32)), .unset, .unset] [(.ref a_EXTENDED)])
    refine own_go (fun t k => XS.astoreN X20.here hx rfl (hb hby at_12) rfl rfl (l' := #[.val (.int i0), .val (.int (9 : Int32)), .val (.ref a_EXTENDED), .unset]) rfl k) ?_
    show own_G p e below _ T20 (mkF m 13 #[.val (.int i0), .val (.int (9 : Int32)), .val (.ref a_EXTENDED), .unset] [])
    refine own_go (fun t k => XS.iloadN X20.here hx rfl (hb hby at_13) rfl k) ?_
    show own_G p e below _ T20 (mkF m 14 #[.val (.int i0), .val (.int (9 : Int32)), .val (.ref a_EXTENDED), .unset] [(.int (9 : Int32))])
    refine own_go (fun t k => XS.iconst X20.here hx rfl (hb hby at_14) k) ?_
    show own_G p e below _ T20 (mkF m 15 #[.val (.int i0), .val (.int (9 : Int32)), .val (.ref a_EXTENDED), .unset] [(.int (1 : Int32)), (.int (9 : Int32))])
    refine own_go (fun t k => XS.icmpNo X20.here hx rfl (hb hby at_15) rfl (by decide) k) ?_
    show own_G p e below _ T20 (mkF m 18 #[.val (.int i0), .val (.int (9 : Int32)), .val (.ref a_EXTENDED), .unset] [])
    refine own_go (fun t k => XS.iloadN X20.here hx rfl (hb hby at_18) rfl k) ?_
    show own_G p e below _ T20 (mkF m 19 #[.val (.int i0), .val (.int (9 : Int32)), .val (.ref a_EXTENDED), .unset] [(.int (9 : Int32))])
    refine own_go (fun t k => XS.bipush X20.here hx rfl (hb hby at_19) k) ?_
    show own_G p e below _ T20 (mkF m 21 #[.val (.int i0), .val (.int (9 : Int32)), .val (.ref a_EXTENDED), .unset] [(.int (8 : Int32)), (.int (9 : Int32))])
    refine own_go (fun t k => XS.icmpNo X20.here hx rfl (hb hby at_21) rfl (by decide) k) ?_
    show own_G p e below _ T20 (mkF m 24 #[.val (.int i0), .val (.int (9 : Int32)), .val (.ref a_EXTENDED), .unset] [])
    refine own_go (fun t k => XS.iconst X20.here hx rfl (hb hby at_24) k) ?_
    show own_G p e below _ T20 (mkF m 25 #[.val (.int i0), .val (.int (9 : Int32)), .val (.ref a_EXTENDED), .unset] [(.int (1 : Int32))])
    refine own_go (fun t k => XS.goto X20.here hx rfl (pc0 := 25) (pc' := 29) rfl (hb hby at_25) (by decide) (by decide) k) ?_
    show own_G p e below _ T20 (mkF m 29 #[.val (.int i0), .val (.int (9 : Int32)), .val (.ref a_EXTENDED), .unset] [(.int (1 : Int32))])
    refine own_go (fun t k => XS.istoreN X20.here hx rfl (hb hby at_29) rfl (l' := #[.val (.int i0), .val (.int (9 : Int32)), .val (.ref a_EXTENDED), .val (.int (1 : Int32))]) rfl k) ?_
    show own_G p e below _ T20 (mkF m 30 #[.val (.int i0), .val (.int (9 : Int32)), .val (.ref a_EXTENDED), .val (.int (1 : Int32))] [])
    refine own_go (fun t k => XS.aloadN X20.here hx rfl (hb hby at_30) rfl rfl k) ?_
    show own_G p e below _ T20 (mkF m 31 #[.val (.int i0), .val (.int (9 : Int32)), .val (.ref a_EXTENDED), .val (.int (1 : Int32))] [(.ref a_EXTENDED)])
    obtain ⟨T21, L21, v21, X21, ⟨rfl, rfl, q21⟩, st21⟩ := own_callV X20 hx hZ (y := (⟨"com/example/canonry/canonry/Operation", "hasResponse", "()Z"⟩ : MethodName)) (z := (⟨"com/example/canonry/canonry/Operation", "hasResponse", "()Z"⟩ : MethodName)) hown (hw _ (List.mem_of_getElem? (i := 8) rfl)) (hw _ (List.mem_of_getElem? (i := 9) rfl)) (hw _ (List.mem_of_getElem? (i := 11) rfl)) (hw _ (List.mem_of_getElem? (i := 11) rfl)) (hw _ (List.mem_of_getElem? (i := 10) rfl)) (hw _ (List.mem_of_getElem? (i := 12) rfl)) (hw _ (List.mem_of_getElem? (i := 6) rfl)) (notFace_of_selects (args := #[]) (mvT hZ (hw _ (List.mem_of_getElem? (i := 11) rfl)))) (by decide) (c_has l Z a0 hw a_EXTENDED (120 : Int32) h0  F_EXTENDED_responseTag) q20 E_EXTENDED (argsL := []) (rest := []) (g := (mkF m 31 #[.val (.int i0), .val (.int (9 : Int32)), .val (.ref a_EXTENDED), .val (.int (1 : Int32))] [(.ref a_EXTENDED)])) rfl (by rw [hml]; rfl) (ps := []) (r := (some .boolean)) (by decide +kernel) rfl rfl (W := 0) (by show 2 * 0 + _ ≤ _; exact Nat.le_of_eq rfl) (hb hby at_31) (by decide) (by decide) (by decide) (by decide)
    have N21 := Fr.app N20 (Fr.nil n0)
    refine own_go st21 ?_
    show own_G p e below _ T21 (mkF m 34 #[.val (.int i0), .val (.int (9 : Int32)), .val (.ref a_EXTENDED), .val (.int (1 : Int32))] [(.int (own_has a_EXTENDED (120 : Int32)))])
    have r21 : (own_has a_EXTENDED (120 : Int32)) = (1 : Int32) := by unfold own_has; rw [if_neg (show ¬ ((120 : Int32) < (0 : Int32)) by decide)]; rfl
    rw [r21]
    show own_G p e below _ T21 (mkF m 34 #[.val (.int i0), .val (.int (9 : Int32)), .val (.ref a_EXTENDED), .val (.int (1 : Int32))] [(.int (1 : Int32))])
    refine own_go (fun t k => XS.iloadN X21.here hx rfl (hb hby at_34) rfl k) ?_
    show own_G p e below _ T21 (mkF m 35 #[.val (.int i0), .val (.int (9 : Int32)), .val (.ref a_EXTENDED), .val (.int (1 : Int32))] [(.int (1 : Int32)), (.int (1 : Int32))])
    refine own_go (fun t k => XS.icmpNo X21.here hx rfl (hb hby at_35) rfl (by decide) k) ?_
    show own_G p e below _ T21 (mkF m 38 #[.val (.int i0), .val (.int (9 : Int32)), .val (.ref a_EXTENDED), .val (.int (1 : Int32))] [])
    refine own_go (fun t k => XS.iconst X21.here hx rfl (hb hby at_38) k) ?_
    show own_G p e below _ T21 (mkF m 39 #[.val (.int i0), .val (.int (9 : Int32)), .val (.ref a_EXTENDED), .val (.int (1 : Int32))] [(.int (1 : Int32))])
    refine own_go (fun t k => XS.goto X21.here hx rfl (pc0 := 39) (pc' := 43) rfl (hb hby at_39) (by decide) (by decide) k) ?_
    show own_G p e below _ T21 (mkF m 43 #[.val (.int i0), .val (.int (9 : Int32)), .val (.ref a_EXTENDED), .val (.int (1 : Int32))] [(.int (1 : Int32))])
    exact own_retN X21 hx hlk hret (by simp) (hb hby at_43) (by decide) (by decide) ⟨rfl, N21⟩
set_option maxRecDepth 65536 in
set_option maxHeartbeats 40000000 in
theorem comes_1 {Post : Tables → Env → Array Value → State → Outcome → State → Prop} (hpost : ∀ tb e args s v u, (limb_1_1.after args s (.returned v) u = true ∧ limb_1_2.after args s (.returned v) u = true ∧ True) → FrameEnd s (.returned v) u (Jvm.fieldLocs frame_1_writes args s ++ Jvm.arrayLocs frame_1_arrays args s ++ Jvm.staticLocs frame_1_statics s) 0 0 → Post tb e args s (.returned v) u) :
    ArmFor flags0 classFile x code maxLocals ret World_1 tables_1 room_1 Calls_1 rest_1 Pre_1 Post := by
  intro l hfl _ _ p e ha hc hk s m args below hf hA hF happ hP
  obtain ⟨hcalls, hrest, hpre⟩ := hP
  obtain ⟨-, -, -, hnamed, -, -, -, hat⟩ := (Spec.applies_iff hf).mp happ
  obtain ⟨hg, hn⟩ := and_e (Cond.before_iff.mp (show (Jvm.Cond.and given_1 narrow_1).before args s = true from hpre))
  obtain ⟨h1, hg⟩ := and_e hg
  obtain ⟨w0, rfl⟩ : ∃ w0 : Value, args = #[w0] := by
    have hs : args.size = 1 := by simpa [Cond.value, given_1] using h1
    obtain ⟨L⟩ := args
    match L, hs with
    | [w0], _ => exact ⟨w0, rfl⟩
  obtain ⟨i0, ei0⟩ := is_v hg
  obtain rfl : w0 = (.int i0) := Option.some.inj ei0
  have hw := fun d (hd : d ∈ tables_1) => atoms_spec (ws := Jvm.Cond.code x code maxLocals ret :: tables_1) hat d (List.mem_cons_of_mem _ hd)
  obtain ⟨n0, hn⟩ := and_e hn
  obtain ⟨a_BIND, v_BIND⟩ := exa_v n0
  have S_BIND := Sta.start v_BIND (Or.inr ⟨(hw _ (List.mem_of_getElem? (i := 6) rfl)), (hw _ (List.mem_of_getElem? (i := 7) rfl))⟩)
  have E_BIND := Exa.start v_BIND n0
  obtain ⟨n1, hn⟩ := and_e hn
  have F_BIND_responseTag := own_fld v_BIND n1
  obtain ⟨n2, hn⟩ := and_e hn
  obtain ⟨a_MODIFY, v_MODIFY⟩ := exa_v n2
  have S_MODIFY := Sta.start v_MODIFY (Or.inr ⟨(hw _ (List.mem_of_getElem? (i := 6) rfl)), (hw _ (List.mem_of_getElem? (i := 16) rfl))⟩)
  have E_MODIFY := Exa.start v_MODIFY n2
  obtain ⟨n3, hn⟩ := and_e hn
  have F_MODIFY_responseTag := own_fld v_MODIFY n3
  obtain ⟨n4, hn⟩ := and_e hn
  obtain ⟨a_UNBIND, v_UNBIND⟩ := exa_v n4
  have S_UNBIND := Sta.start v_UNBIND (Or.inr ⟨(hw _ (List.mem_of_getElem? (i := 6) rfl)), (hw _ (List.mem_of_getElem? (i := 18) rfl))⟩)
  have E_UNBIND := Exa.start v_UNBIND n4
  obtain ⟨n5, hn⟩ := and_e hn
  have F_UNBIND_responseTag := own_fld v_UNBIND n5
  obtain ⟨n6, hn⟩ := and_e hn
  obtain ⟨a_ADD, v_ADD⟩ := exa_v n6
  have S_ADD := Sta.start v_ADD (Or.inr ⟨(hw _ (List.mem_of_getElem? (i := 6) rfl)), (hw _ (List.mem_of_getElem? (i := 20) rfl))⟩)
  have E_ADD := Exa.start v_ADD n6
  obtain ⟨n7, hn⟩ := and_e hn
  have F_ADD_responseTag := own_fld v_ADD n7
  obtain ⟨n8, hn⟩ := and_e hn
  obtain ⟨a_COMPARE, v_COMPARE⟩ := exa_v n8
  have S_COMPARE := Sta.start v_COMPARE (Or.inr ⟨(hw _ (List.mem_of_getElem? (i := 6) rfl)), (hw _ (List.mem_of_getElem? (i := 22) rfl))⟩)
  have E_COMPARE := Exa.start v_COMPARE n8
  obtain ⟨n9, hn⟩ := and_e hn
  have F_COMPARE_responseTag := own_fld v_COMPARE n9
  obtain ⟨n10, hn⟩ := and_e hn
  obtain ⟨a_SEARCH, v_SEARCH⟩ := exa_v n10
  have S_SEARCH := Sta.start v_SEARCH (Or.inr ⟨(hw _ (List.mem_of_getElem? (i := 6) rfl)), (hw _ (List.mem_of_getElem? (i := 24) rfl))⟩)
  have E_SEARCH := Exa.start v_SEARCH n10
  obtain ⟨n11, hn⟩ := and_e hn
  have F_SEARCH_responseTag := own_fld v_SEARCH n11
  obtain ⟨n12, hn⟩ := and_e hn
  obtain ⟨a_ABANDON, v_ABANDON⟩ := exa_v n12
  have S_ABANDON := Sta.start v_ABANDON (Or.inr ⟨(hw _ (List.mem_of_getElem? (i := 6) rfl)), (hw _ (List.mem_of_getElem? (i := 26) rfl))⟩)
  have E_ABANDON := Exa.start v_ABANDON n12
  obtain ⟨n13, hn⟩ := and_e hn
  have F_ABANDON_responseTag := own_fld v_ABANDON n13
  obtain ⟨n14, hn⟩ := and_e hn
  obtain ⟨a_EXTENDED, v_EXTENDED⟩ := exa_v n14
  have S_EXTENDED := Sta.start v_EXTENDED (Or.inr ⟨(hw _ (List.mem_of_getElem? (i := 6) rfl)), (hw _ (List.mem_of_getElem? (i := 28) rfl))⟩)
  have E_EXTENDED := Exa.start v_EXTENDED n14
  obtain ⟨n15, hn⟩ := and_e hn
  have F_EXTENDED_responseTag := own_fld v_EXTENDED n15
  obtain ⟨n16, hn⟩ := and_e hn
  obtain ⟨a_DELETE, v_DELETE⟩ := exa_v n16
  have S_DELETE := Sta.start v_DELETE (Or.inr ⟨(hw _ (List.mem_of_getElem? (i := 6) rfl)), (hw _ (List.mem_of_getElem? (i := 30) rfl))⟩)
  have E_DELETE := Exa.start v_DELETE n16
  obtain ⟨n17, hn⟩ := and_e hn
  have F_DELETE_responseTag := own_fld v_DELETE n17
  obtain ⟨n18, hn⟩ := and_e hn
  obtain ⟨a_MODIFY_DN, v_MODIFY_DN⟩ := exa_v n18
  have S_MODIFY_DN := Sta.start v_MODIFY_DN (Or.inr ⟨(hw _ (List.mem_of_getElem? (i := 6) rfl)), (hw _ (List.mem_of_getElem? (i := 32) rfl))⟩)
  have E_MODIFY_DN := Exa.start v_MODIFY_DN n18
  have F_MODIFY_DN_responseTag := own_fld v_MODIFY_DN hn
  have B : own_B s s.heap a_BIND a_MODIFY a_UNBIND a_ADD a_COMPARE a_SEARCH a_ABANDON a_EXTENDED a_DELETE a_MODIFY_DN := ⟨S_BIND, E_BIND, F_BIND_responseTag, S_MODIFY, E_MODIFY, F_MODIFY_responseTag, S_UNBIND, E_UNBIND, F_UNBIND_responseTag, S_ADD, E_ADD, F_ADD_responseTag, S_COMPARE, E_COMPARE, F_COMPARE_responseTag, S_SEARCH, E_SEARCH, F_SEARCH_responseTag, S_ABANDON, E_ABANDON, F_ABANDON_responseTag, S_EXTENDED, E_EXTENDED, F_EXTENDED_responseTag, S_DELETE, E_DELETE, F_DELETE_responseTag, S_MODIFY_DN, E_MODIFY_DN, F_MODIFY_DN_responseTag⟩
  obtain ⟨n, o, h1, h2, h3, _, L, rfl, ⟨rfl, N⟩, hq⟩ := rm0 l s _ hw i0 a_BIND a_MODIFY a_UNBIND a_ADD a_COMPARE a_SEARCH a_ABANDON a_EXTENDED a_DELETE a_MODIFY_DN s.heap s.heap.size (Nat.le_refl _) B tables_1 p e ha hc hk s m _ below hf ((Spec.applies_iff_loose hf).mp happ).1 ⟨rfl, State.Warmed39.refl s, rfl⟩ trivial
  refine ⟨n, _, h1, h2, h3, hpost _ _ _ _ _ _ ⟨Jvm.Cond.after_iff.mpr rfl, Jvm.Cond.after_iff.mpr (eq_i res_at (Term.int_eval (1)) rfl), trivial⟩ ⟨hq.1, hq.2.1, (hq.2.2.sift fun y hy => Or.inr (N y hy)).mono (by decide) (by decide)⟩⟩
theorem main_1_1 : Claimed_1_1 := comes_1 fun _ _ _ _ _ _ h hF => ⟨h.1, hF⟩
theorem main_1_2 : Claimed_1_2 := comes_1 fun _ _ _ _ _ _ h hF => ⟨h.2.1, hF⟩
end Jvm.Pilot.@@N@@
namespace Jvm.Pilot.@@N@@
open Jvm Jvm.ClassFile Sem Op Lib Jvm.Free Jvm.Stand Jvm.Pilot.@@N@@.Jvm.D
/-! MADE BY PROGRAM (witnessworld.py) out of the Statement's table words and the real class files: 12 classes; the members and pool entries that the words name. The judged class is class 1, her method 2. -/
namespace start1
open Jvm.ClassFile
def u (s : String) : CpInfo := .utf8 (stringToUtf16 s)
/-- a pool by its gaps: so many unusable entries, then the entry; so many at the end -/
def gap : Nat → List CpInfo → List CpInfo
  | 0, r => r
  | n + 1, r => .unusable :: gap n r
def poolList (es : List (Nat × CpInfo)) (last : Nat) : List CpInfo := es.foldr (fun e r => gap e.1 (e.2 :: r)) (gap last [])
def pool (es : List (Nat × CpInfo)) (last : Nat) : Array CpInfo := ⟨poolList es last⟩
def fileOf (pool : Array CpInfo) (this : Nat) (attrs : Array Attribute := #[]) (ms : Array MethodInfo := #[]) (fl : Nat := 33) (sup : Nat := 0) (ifs : Array Nat := #[]) (fds : Array FieldInfo := #[]) : ClassFile where
  minorVersion := 0
  majorVersion := 65
  constantPool := pool
  accessFlags := fl
  thisClass := this
  superClass := sup
  interfaces := ifs
  fields := fds
  methods := ms
  attributes := attrs
def plain (name : String) (sup : Option ClassId) : Class where
  name := name
  kind := .ordinary
  loader := none
  accessFlags := 33
  super := sup
  interfaces := #[]
  cf := none
  fields := #[]
  methods := #[]
  instanceTypes := #[]
  staticTypes := #[]
  resolved := #[]
  callSites := []
  init := .initialized
  statics := none
  mirror := none

def pool0 : Array CpInfo := pool [(5, u "<init>"), (0, u "()V"), (1, .class_ 10), (1, u "java/lang/Object")] 113

def k0m0 : Method := { name := "<init>", desc := "()V", sig := { parameters := [], returnType := none }, accessFlags := 1, code := none }
/-- java/lang/Object -/
def k0 : Class := { plain "java/lang/Object" none with
  accessFlags := 33
  interfaces := #[]
  cf := some (fileOf pool0 8 #[] #[{ accessFlags := 1, nameIndex := 5, descriptorIndex := 6, attributes := #[] }] 33 0 #[] #[])
  fields := #[]
  methods := #[k0m0]
  instanceTypes := #[]
  staticTypes := #[]
  resolved := Array.replicate 124 none
  statics := none }

def pool1 : Array CpInfo := pool [(2, .class_ 4), (1, u "java/lang/Object"), (0, u "<init>"), (0, u "()V"), (0, .fieldref 8 9), (0, .class_ 10), (0, .nameAndType 11 12), (0, u "com/example/canonry/canonry/Operation"), (0, u "BIND"), (0, u "Lcom/example/canonry/canonry/Operation;"), (0, .fieldref 8 14), (0, .nameAndType 15 12), (0, u "UNBIND"), (0, .fieldref 8 17), (0, .nameAndType 18 12), (0, u "SEARCH"), (0, .fieldref 8 20), (0, .nameAndType 21 12), (0, u "MODIFY"), (0, .fieldref 8 23), (0, .nameAndType 24 12), (0, u "ADD"), (0, .fieldref 8 26), (0, .nameAndType 27 12), (0, u "DELETE"), (0, .fieldref 8 29), (0, .nameAndType 30 12), (0, u "MODIFY_DN"), (0, .fieldref 8 32), (0, .nameAndType 33 12), (0, u "COMPARE"), (0, .fieldref 8 35), (0, .nameAndType 36 12), (0, u "ABANDON"), (0, .fieldref 8 38), (0, .nameAndType 39 12), (0, u "EXTENDED"), (0, .integer 2147483647), (0, .methodref 42 43), (0, .class_ 44), (0, .nameAndType 45 46), (0, u "com/example/canonry/canonry/OperationHasResponsePinLaw"), (0, u "pick"), (0, u "(I)Lcom/example/canonry/canonry/Operation;"), (0, .methodref 8 48), (0, .nameAndType 49 50), (0, u "hasResponse"), (0, u "()Z"), (3, u "law"), (0, u "(I)Z")] 2

def k1m0 : Method := { name := "<init>", desc := "()V", sig := { parameters := [], returnType := none }, accessFlags := 1, code := none }
def k1c1 : Code := { maxStack := 2, maxLocals := 1, code := method_2_code, exceptionTable := #[], attributes := #[] }
def k1m1 : Method := { name := "pick", desc := "(I)Lcom/example/canonry/canonry/Operation;", sig := { parameters := [.int], returnType := some (.object "com/example/canonry/canonry/Operation") }, accessFlags := 10, code := some k1c1 }
def k1c2 : Code := { maxStack := 2, maxLocals := 4, code := code, exceptionTable := #[], attributes := #[] }
def k1m2 : Method := { name := "law", desc := "(I)Z", sig := { parameters := [.int], returnType := some .boolean }, accessFlags := 9, code := some k1c2 }
/-- com/example/canonry/canonry/OperationHasResponsePinLaw -/
def k1 : Class := { plain "com/example/canonry/canonry/OperationHasResponsePinLaw" (some 0) with
  accessFlags := 49
  interfaces := #[]
  cf := some (fileOf pool1 42 #[] #[{ accessFlags := 1, nameIndex := 5, descriptorIndex := 6, attributes := #[] }, { accessFlags := 10, nameIndex := 45, descriptorIndex := 46, attributes := #[] }, { accessFlags := 9, nameIndex := 54, descriptorIndex := 55, attributes := #[] }] 49 2 #[] #[])
  fields := #[]
  methods := #[k1m0, k1m1, k1m2]
  instanceTypes := #[]
  staticTypes := #[]
  resolved := Array.replicate 58 none
  statics := none }

def pool2 : Array CpInfo := pool [(1, .class_ 2), (0, u "java/lang/constant/Constable"), (0, .class_ 4), (0, u "java/lang/Object")] 6

/-- java/lang/constant/Constable -/
def k2 : Class := { plain "java/lang/constant/Constable" (some 0) with
  accessFlags := 1537
  interfaces := #[]
  cf := some (fileOf pool2 1 #[] #[] 1537 3 #[] #[])
  fields := #[]
  methods := #[]
  instanceTypes := #[]
  staticTypes := #[]
  resolved := Array.replicate 11 none
  statics := none }

def pool3 : Array CpInfo := pool [(1, .class_ 2), (0, u "java/lang/Comparable"), (0, .class_ 4), (0, u "java/lang/Object")] 7

/-- java/lang/Comparable -/
def k3 : Class := { plain "java/lang/Comparable" (some 0) with
  accessFlags := 1537
  interfaces := #[]
  cf := some (fileOf pool3 1 #[] #[] 1537 3 #[] #[])
  fields := #[]
  methods := #[]
  instanceTypes := #[]
  staticTypes := #[]
  resolved := Array.replicate 12 none
  statics := none }

def pool4 : Array CpInfo := pool [(1, .class_ 2), (0, u "java/io/Serializable"), (0, .class_ 4), (0, u "java/lang/Object")] 2

/-- java/io/Serializable -/
def k4 : Class := { plain "java/io/Serializable" (some 0) with
  accessFlags := 1537
  interfaces := #[]
  cf := some (fileOf pool4 1 #[] #[] 1537 3 #[] #[])
  fields := #[]
  methods := #[]
  instanceTypes := #[]
  staticTypes := #[]
  resolved := Array.replicate 7 none
  statics := none }

def pool5 : Array CpInfo := pool [(2, .class_ 4), (1, u "java/lang/Enum"), (0, u "name"), (0, u "Ljava/lang/String;"), (2, u "ordinal"), (0, u "I"), (1, .class_ 14), (1, u "java/lang/Object"), (4, u "hash"), (86, .class_ 108), (1, u "java/lang/Enum$EnumDesc"), (2, .class_ 112), (0, u "java/lang/constant/Constable"), (0, .class_ 114), (0, u "java/lang/Comparable"), (0, .class_ 116), (0, u "java/io/Serializable")] 87

/-- java/lang/Enum -/
def k5 : Class := { plain "java/lang/Enum" (some 0) with
  accessFlags := 1057
  interfaces := #[2, 3, 4]
  cf := some (fileOf pool5 2 #[.nestMembers #[106]] #[] 1057 12 #[111, 113, 115] #[{ accessFlags := 18, nameIndex := 5, descriptorIndex := 6, attributes := #[] }, { accessFlags := 18, nameIndex := 9, descriptorIndex := 10, attributes := #[] }, { accessFlags := 2, nameIndex := 19, descriptorIndex := 10, attributes := #[] }])
  fields := #[{ name := "name", type := (.object "java/lang/String"), accessFlags := 18, slot := 0, constantValue := 0 }, { name := "ordinal", type := .int, accessFlags := 18, slot := 1, constantValue := 0 }, { name := "hash", type := .int, accessFlags := 2, slot := 2, constantValue := 0 }]
  methods := #[]
  instanceTypes := #[(.object "java/lang/String"), .int, .int]
  staticTypes := #[]
  resolved := Array.replicate 204 none
  statics := none }

def pool6 : Array CpInfo := pool [(1, .class_ 2), (0, u "com/example/canonry/canonry/Operation"), (2, u "BIND"), (0, u "Lcom/example/canonry/canonry/Operation;"), (2, u "UNBIND"), (2, u "SEARCH"), (2, u "MODIFY"), (2, u "ADD"), (2, u "DELETE"), (2, u "MODIFY_DN"), (2, u "COMPARE"), (2, u "ABANDON"), (2, u "EXTENDED"), (2, u "$VALUES"), (0, u "[Lcom/example/canonry/canonry/Operation;"), (6, .class_ 46), (1, u "java/lang/Enum"), (8, u "requestTag"), (0, u "I"), (0, .fieldref 1 58), (0, .nameAndType 59 56), (0, u "responseTag"), (26, u "hasResponse"), (0, u "()Z")] 8

def k6c0 : Code := { maxStack := 1, maxLocals := 1, code := prog_6_method_4_code, exceptionTable := #[], attributes := #[] }
def k6m0 : Method := { name := "hasResponse", desc := "()Z", sig := { parameters := [], returnType := some .boolean }, accessFlags := 0, code := some k6c0 }
/-- com/example/canonry/canonry/Operation -/
def k6 : Class := { plain "com/example/canonry/canonry/Operation" (some 5) with
  accessFlags := 16432
  interfaces := #[]
  cf := some (fileOf pool6 1 #[] #[{ accessFlags := 0, nameIndex := 86, descriptorIndex := 87, attributes := #[] }] 16432 44 #[] #[{ accessFlags := 16409, nameIndex := 5, descriptorIndex := 6, attributes := #[] }, { accessFlags := 16409, nameIndex := 9, descriptorIndex := 6, attributes := #[] }, { accessFlags := 16409, nameIndex := 12, descriptorIndex := 6, attributes := #[] }, { accessFlags := 16409, nameIndex := 15, descriptorIndex := 6, attributes := #[] }, { accessFlags := 16409, nameIndex := 18, descriptorIndex := 6, attributes := #[] }, { accessFlags := 16409, nameIndex := 21, descriptorIndex := 6, attributes := #[] }, { accessFlags := 16409, nameIndex := 24, descriptorIndex := 6, attributes := #[] }, { accessFlags := 16409, nameIndex := 27, descriptorIndex := 6, attributes := #[] }, { accessFlags := 16409, nameIndex := 30, descriptorIndex := 6, attributes := #[] }, { accessFlags := 16409, nameIndex := 33, descriptorIndex := 6, attributes := #[] }, { accessFlags := 16, nameIndex := 55, descriptorIndex := 56, attributes := #[] }, { accessFlags := 16, nameIndex := 59, descriptorIndex := 56, attributes := #[] }, { accessFlags := 4122, nameIndex := 36, descriptorIndex := 37, attributes := #[] }])
  fields := #[{ name := "BIND", type := (.object "com/example/canonry/canonry/Operation"), accessFlags := 16409, slot := 0, constantValue := 0 }, { name := "UNBIND", type := (.object "com/example/canonry/canonry/Operation"), accessFlags := 16409, slot := 1, constantValue := 0 }, { name := "SEARCH", type := (.object "com/example/canonry/canonry/Operation"), accessFlags := 16409, slot := 2, constantValue := 0 }, { name := "MODIFY", type := (.object "com/example/canonry/canonry/Operation"), accessFlags := 16409, slot := 3, constantValue := 0 }, { name := "ADD", type := (.object "com/example/canonry/canonry/Operation"), accessFlags := 16409, slot := 4, constantValue := 0 }, { name := "DELETE", type := (.object "com/example/canonry/canonry/Operation"), accessFlags := 16409, slot := 5, constantValue := 0 }, { name := "MODIFY_DN", type := (.object "com/example/canonry/canonry/Operation"), accessFlags := 16409, slot := 6, constantValue := 0 }, { name := "COMPARE", type := (.object "com/example/canonry/canonry/Operation"), accessFlags := 16409, slot := 7, constantValue := 0 }, { name := "ABANDON", type := (.object "com/example/canonry/canonry/Operation"), accessFlags := 16409, slot := 8, constantValue := 0 }, { name := "EXTENDED", type := (.object "com/example/canonry/canonry/Operation"), accessFlags := 16409, slot := 9, constantValue := 0 }, { name := "requestTag", type := .int, accessFlags := 16, slot := 3, constantValue := 0 }, { name := "responseTag", type := .int, accessFlags := 16, slot := 4, constantValue := 0 }, { name := "$VALUES", type := (.array (.object "com/example/canonry/canonry/Operation")), accessFlags := 4122, slot := 10, constantValue := 0 }]
  methods := #[k6m0]
  instanceTypes := #[(.object "java/lang/String"), .int, .int, .int, .int]
  staticTypes := #[(.object "com/example/canonry/canonry/Operation"), (.object "com/example/canonry/canonry/Operation"), (.object "com/example/canonry/canonry/Operation"), (.object "com/example/canonry/canonry/Operation"), (.object "com/example/canonry/canonry/Operation"), (.object "com/example/canonry/canonry/Operation"), (.object "com/example/canonry/canonry/Operation"), (.object "com/example/canonry/canonry/Operation"), (.object "com/example/canonry/canonry/Operation"), (.object "com/example/canonry/canonry/Operation"), (.array (.object "com/example/canonry/canonry/Operation"))]
  resolved := Array.replicate 96 none
  statics := some 0 }

def pool7 : Array CpInfo := pool [(1, u "java/lang/Cloneable"), (0, .class_ 1), (0, u "java/lang/Object"), (0, .class_ 3)] 3

/-- java/lang/Cloneable -/
def k7 : Class := { plain "java/lang/Cloneable" (some 0) with
  accessFlags := 1537
  interfaces := #[]
  cf := some (fileOf pool7 2 #[] #[] 1537 4 #[] #[])
  fields := #[]
  methods := #[]
  instanceTypes := #[]
  staticTypes := #[]
  resolved := Array.replicate 8 none
  statics := none }

/-- the primitive byte -/
def k8 : Class := { plain "byte" none with kind := .primitive 'B', accessFlags := 0x411 }
/-- [B -/
def k9 : Class := { plain "[B" (some 0) with kind := .array 8 .byte, interfaces := #[7, 4], accessFlags := 1041 }

/-- the primitive int -/
def k10 : Class := { plain "int" none with kind := .primitive 'I', accessFlags := 0x411 }
/-- [I -/
def k11 : Class := { plain "[I" (some 0) with kind := .array 10 .int, interfaces := #[7, 4], accessFlags := 1041 }

def heap : Heap := #[{ cls := 6, slots := #[.ref 1, .ref 3, .ref 6, .ref 2, .ref 4, .ref 9, .ref 10, .ref 5, .ref 7, .ref 8, .null], vm := .statics 6 },
  { cls := 6, slots := #[.null, .int 0, .int 0, .int 0, .int 97], vm := .none },
  { cls := 6, slots := #[.null, .int 0, .int 0, .int 0, .int 103], vm := .none },
  { cls := 6, slots := #[.null, .int 0, .int 0, .int 0, .int (-1)], vm := .none },
  { cls := 6, slots := #[.null, .int 0, .int 0, .int 0, .int 105], vm := .none },
  { cls := 6, slots := #[.null, .int 0, .int 0, .int 0, .int 111], vm := .none },
  { cls := 6, slots := #[.null, .int 0, .int 0, .int 0, .int 101], vm := .none },
  { cls := 6, slots := #[.null, .int 0, .int 0, .int 0, .int (-1)], vm := .none },
  { cls := 6, slots := #[.null, .int 0, .int 0, .int 0, .int 120], vm := .none },
  { cls := 6, slots := #[.null, .int 0, .int 0, .int 0, .int 107], vm := .none },
  { cls := 6, slots := #[.null, .int 0, .int 0, .int 0, .int 109], vm := .none }]
def classes : Array Class := #[k0, k1, k2, k3, k4, k5, k6, k7, k8, k9, k10, k11]
def interned : List (Array UInt16 × Addr) := []
def slotsUsed : Nat := 61
def theMethod : MethodId := ⟨1, 2⟩
def args0 : Array Value := #[.int 5]
def aboutOver (below : List Frame) : State where
  vm := { classes := classes, interned := interned.toArray }
  heap := heap
  slotsUsed := slotsUsed
  threads := #[{ frames := .invoking theMethod args0 :: below }]
def below0 : List Frame := [.native { method := ⟨0, 0⟩, args := #[] }]
def about1 : State := aboutOver below0
def p0 : Program := .bare "" "" ""
def e0 : Env := launch0.env 0 0 0
theorem w_frames : about1.frames = Frame.invoking theMethod args0 :: below0 := rfl
set_option maxRecDepth 65536 in
theorem w_args : argsFit about1.vm theMethod args0 = true := by decide +kernel
set_option maxRecDepth 65536 in
theorem w_heap : heapFits about1 = true := by decide +kernel
set_option maxRecDepth 65536 in
theorem w_runnable : about1.curStatus? = some .runnable := by decide +kernel
set_option maxRecDepth 65536 in
theorem w_alone : about1.alone = true := by decide +kernel
set_option maxRecDepth 65536 in
theorem w_named : about1.methodNamed? x = some theMethod := by decide +kernel
set_option maxRecDepth 65536 in
theorem w_hears : about1.hears theMethod below0 = true := by decide +kernel
set_option maxRecDepth 65536 in
theorem w_ripe : about1.ripe theMethod args0 below0 = true := by decide +kernel
theorem w_running : about1.status = .running := rfl
set_option maxRecDepth 65536 in
theorem w_room : about1.hasRoom e0.platform room_1 = true :=
  launch0.hasRoom_least _ room_1 (by decide +kernel) (by decide +kernel) (by decide +kernel) (by decide +kernel) (by decide +kernel) (by decide +kernel)
theorem allAtoms_all (ts : List Jvm.Cond) (a : Array Jvm.Value) (st : Jvm.State) : (allAtoms ts).before a st = ts.all (fun c => c.before a st) := by
  induction ts with
  | nil => rfl
  | cons c t ih =>
    show (Jvm.Cond.and c (allAtoms t)).before a st = _
    rw [Jvm.Cond.before_and, ih, List.all_cons]
def words1 : List Jvm.Cond := Jvm.Cond.code x code maxLocals ret :: tables_1
/-- a 'code' word, met by the world's own term for the bytes: nothing is compared byte by byte -/
theorem code_word {y : MethodName} {bytes : ByteArray} {mx : Nat} {rt : Option FieldType} {a : Array Value} {s : State} {m : MethodId} {meth : Method} {c : Code} (h1 : s.methodNamed? y = some m) (h2 : s.vm.method? m = some meth) (h3 : meth.code = some c) (h4 : c.code = bytes)
    (h5 : (c.maxLocals == mx && c.exceptionTable.isEmpty && decide (c.maxStack ≤ mostOperands) && decide (meth.sig.returnType = rt) && !meth.locks && decide (parseMethodDescriptor y.desc = some meth.sig)) = true) : (Jvm.Cond.code y bytes mx rt).before a s = true := by
  simp only [Bool.and_eq_true, beq_iff_eq, Bool.not_eq_true', decide_eq_true_eq] at h5
  obtain ⟨⟨⟨⟨⟨g1, g2⟩, g3⟩, g4⟩, g5⟩, g6⟩ := h5
  simp [Cond.before, Cond.holds, Cond.value, h1, h2, h3, h4, g1, g2, g3, g4, g5, g6]
def isCode : Jvm.Cond → Bool
  | .code _ _ _ _ => true
  | _ => false
theorem all_split {L : List Jvm.Cond} {P : Jvm.Cond → Bool} (h1 : L.all (fun c => isCode c || P c) = true) (h2 : ∀ c ∈ L.filter isCode, P c = true) : L.all P = true := by
  refine List.all_eq_true.mpr fun c hc => ?_
  have h := List.all_eq_true.mp h1 c hc
  rcases Bool.eq_false_or_eq_true (isCode c) with hi | hi
  · exact h2 c (List.mem_filter.mpr ⟨hc, hi⟩)
  · simpa [hi] using h
set_option maxRecDepth 65536 in
theorem w_c0 : (Jvm.Cond.code x code maxLocals ret).before args0 about1 = true := code_word (m := ⟨1, 2⟩) (meth := k1m2) (c := k1c2) (by decide +kernel) rfl rfl rfl (by decide +kernel)
set_option maxRecDepth 65536 in
theorem w_c1 : (Jvm.Cond.code ({ cls := "com/example/canonry/canonry/OperationHasResponsePinLaw", name := "pick", desc := "(I)Lcom/example/canonry/canonry/Operation;" } : Jvm.MethodName) method_2_code (1 : Nat) (Option.some (Jvm.ClassFile.FieldType.object "com/example/canonry/canonry/Operation"))).before args0 about1 = true := code_word (m := ⟨1, 1⟩) (meth := k1m1) (c := k1c1) (by decide +kernel) rfl rfl rfl (by decide +kernel)
set_option maxRecDepth 65536 in
theorem w_c2 : (Jvm.Cond.code ({ cls := "com/example/canonry/canonry/Operation", name := "hasResponse", desc := "()Z" } : Jvm.MethodName) prog_6_method_4_code (1 : Nat) (Option.some Jvm.ClassFile.FieldType.boolean)).before args0 about1 = true := code_word (m := ⟨6, 0⟩) (meth := k6m0) (c := k6c0) (by decide +kernel) rfl rfl rfl (by decide +kernel)
def codes1 : List Jvm.Cond := [Jvm.Cond.code x code maxLocals ret, Jvm.Cond.code ({ cls := "com/example/canonry/canonry/OperationHasResponsePinLaw", name := "pick", desc := "(I)Lcom/example/canonry/canonry/Operation;" } : Jvm.MethodName) method_2_code (1 : Nat) (Option.some (Jvm.ClassFile.FieldType.object "com/example/canonry/canonry/Operation")), Jvm.Cond.code ({ cls := "com/example/canonry/canonry/Operation", name := "hasResponse", desc := "()Z" } : Jvm.MethodName) prog_6_method_4_code (1 : Nat) (Option.some Jvm.ClassFile.FieldType.boolean)]
set_option maxRecDepth 65536 in
theorem codes_eq : words1.filter isCode = codes1 := rfl
theorem w_codes : ∀ c ∈ words1.filter isCode, c.before args0 about1 = true := by
  rw [codes_eq]
  intro c hc
  simp only [codes1, List.mem_cons, List.not_mem_nil, or_false] at hc
  rcases hc with rfl | rfl | rfl
  · exact w_c0
  · exact w_c1
  · exact w_c2
set_option maxRecDepth 65536 in
theorem w_t1 : (words1.take 24).all (fun c => isCode c || c.before args0 about1) = true := by decide +kernel
set_option maxRecDepth 65536 in
theorem w_t2 : (words1.drop 24).all (fun c => isCode c || c.before args0 about1) = true := by decide +kernel
theorem w_tables : (allAtoms (Jvm.Cond.code x code maxLocals ret :: tables_1)).before args0 about1 = true := by
  rw [allAtoms_all]
  show words1.all (fun c => c.before args0 about1) = true
  refine all_split ?_ w_codes
  rw [← List.take_append_drop 24 words1, List.all_append, w_t1, w_t2]
  rfl
set_option maxRecDepth 65536 in
theorem w_case : (Jvm.Cond.and given_1 narrow_1).before args0 about1 = true := by decide +kernel
theorem w_applies : (headSpec (Jvm.Cond.code x code maxLocals ret :: tables_1) room_1).applies x e0.platform about1 = true :=
  (Spec.applies_iff w_frames).mpr ⟨w_running, w_runnable, w_alone, w_named, w_hears, w_ripe, w_room, w_tables⟩
theorem atStart : AtStart classFile x code maxLocals ret World_1 tables_1 room_1 Calls_1 rest_1 Pre_1 launch0 p0 e0 about1 theMethod args0 below0 :=
  ⟨lists_1, trivial, launch0.admits_env _ _ _, launch0.least_env, fairChoices_fair.cas, fairChoices_fair.clock, w_frames, w_args, w_heap, w_applies, trivial, trivial, w_case⟩
end start1
theorem witness_1 : WitnessClaimed_1 := ⟨start1.p0, start1.e0, start1.about1, start1.theMethod, start1.args0, start1.below0, start1.atStart⟩
end Jvm.Pilot.@@N@@
