import JvmDerived
import JvmDerived.Pilot.@@N@@Statement
import JvmDerived.Pilot.@@N@@Code
set_option linter.unusedVariables false
set_option linter.unusedSimpArgs false
namespace Jvm.Pilot.@@N@@
open Jvm Jvm.ClassFile Sem Op Lib Jvm.Free Jvm.Stand Jvm.LawKit Jvm.RoadKit Bundle Jvm.Pilot.@@N@@.Jvm.D
/-! my own small kit: a walk by continuation -/
section Own
variable {p : Program} {l : Launch} {e : Env} {R : Room} {s : State} {m : MethodId} {args : Array Value} {below : List Frame} {meth : Method} {c : Code} {T T' : State} {locs : List Loc} {cells slots : Nat} {Z : State} {a0 : Array Value} {h h' h0 : Heap} {g g' : JFrame} {a b : Addr} {ty : FieldType} {vs : List Value} {v w : Value} {sl : Nat} {ws : List Addr}
/-- from the frame g over T the run comes to an end with G -/
def own_Go (p : Program) (e : Env) (below : List Frame) (G : Outcome → State → Prop) (T : State) (g : JFrame) : Prop := ∃ s₂ o, Steps p.tables e below (T.setTop g) s₂ ∧ s₂.status = .running ∧ Ended s₂ below o ∧ G o s₂
def own_End (s : State) (kc ks : Nat) (Q : Option Value → Heap → List Loc → Prop) (o : Outcome) (U' : State) : Prop := ∃ v L, o = .returned v ∧ Q v U'.heap L ∧ FrameEnd s o U' L kc ks
def own_Met (l : Launch) (Z : State) (y : MethodName) (bytes : ByteArray) (maxL : Nat) (ret : Option FieldType) (rm : Room) (as' : Array Value) (h0 : Heap) (Q : Option Value → Heap → List Loc → Prop) : Prop :=
  ∀ ws : List Jvm.Cond, MetFree l y (head1 (Jvm.Cond.code y bytes maxL ret :: ws) rm) (fun a U => a = as' ∧ Z.Warmed39 U.vm ∧ U.heap = h0) (fun _ _ _ _ _ => True) (fun _ U o U' => ∃ v L, o = .returned v ∧ Q v U'.heap L ∧ FrameEnd U o U' L rm.cells rm.slots)
theorem own_via {G : Outcome → State → Prop} (q : ∀ t, Steps p.tables e below (T'.setTop g') t → Steps p.tables e below (T.setTop g) t) (k : own_Go p e below G T' g') : own_Go p e below G T g := by
  obtain ⟨t, o, h1, r⟩ := k; exact ⟨t, o, q t h1, r⟩
theorem own_cast {G : Outcome → State → Prop} (q : g = g') (k : own_Go p e below G T g') : own_Go p e below G T g := q ▸ k
theorem own_intro {y : MethodName} {bytes : ByteArray} {maxL : Nat} {ret : Option FieldType} {rm : Room} {as' : Array Value} {Q : Option Value → Heap → List Loc → Prop} (hp : plainFor y = true)
    (body : ∀ (p : Program) (e : Env) (s : State) (m : MethodId) (below : List Frame) (meth : Method) (c : Code) (s₁ : State), p.tables.exec = Jvm.exec → c.code = bytes → c.maxLocals = maxL → s.vm.findClass y.cls = some m.cls → meth.name = y.name → Z.Warmed39 s.vm → meth.sig.returnType = ret → meth.locks = false → Stand p l e rm s m as' below meth c s₁ [] 0 0 → s₁.heap = h0 → own_Go p e below (own_End s rm.cells rm.slots Q) s₁ (entryFrame m as' maxL)) : own_Met l Z y bytes maxL ret rm as' h0 Q := by
  intro ws
  refine MetFree.of_bodySF hp hisR ?_
  intro p e s m args below meth c s₁ Bd hml hP hK
  obtain ⟨rfl, hZ, hh⟩ := hP
  exact body p e s m below meth c s₁ Bd.exec Bd.bytes hml (findClass_of_methodNamed Bd.named) (name_of_methodNamed Bd.named Bd.method).1 hZ Bd.returns Bd.notSynchronized (Stand.of_body Bd) (by rw [← hh, Bd.state]; rfl)
theorem own_fin {kc ks : Nat} {Q : Option Value → Heap → List Loc → Prop} (X : Stand p l e R s m args below meth c T locs cells slots) (hlk : meth.locks = false) {u : Option Value} (hv : meth.sig.returnType = none → u = none) (hq : Q u T.heap locs) (hc : cells ≤ kc) (hs : slots ≤ ks)
    (st : ∀ fs, (∀ (f : JFrame) (acts : List Action), f.method = m → f.locked = none → f.entered = [] → (doReturn e (T.setTop f) acts u).1 = T.setFrames fs) → Steps p.tables e below (T.setTop g) (T.setFrames fs)) : own_Go p e below (own_End s kc ks Q) T g := by
  obtain ⟨fs, hr, hrun, hended, hW, hsame⟩ := X.leave (v := u) hv hlk
  exact ⟨_, _, st fs hr, hrun, hended, _, _, rfl, hq, ⟨_, rfl⟩, hW, hsame.mono hc hs⟩
theorem own_retI {kc ks : Nat} {Q : Option Value → Heap → List Loc → Prop} (X : Stand p l e R s m args below meth c T locs cells slots) (hx : p.tables.exec = Jvm.exec) (hlk : meth.locks = false) {pc : Nat} {Ls : Array Slot} {z : Int32} {rest : List Value} (hret : meth.sig.returnType = some .int) (hd : decode c.code pc = .ok (.ireturn, 1)) (hc : cells ≤ kc) (hs : slots ≤ ks) (hq : Q (some (.int z)) T.heap locs) : own_Go p e below (own_End s kc ks Q) T (mkF m pc Ls (.int z :: rest)) :=
  own_fin X hlk (fun q => by rw [hret] at q; cases q) hq hc hs fun fs hr => retOut X hx hret rfl (Or.inl ⟨rfl, Or.inl rfl, _, rfl⟩) hd hr
theorem own_retJ {kc ks : Nat} {Q : Option Value → Heap → List Loc → Prop} (X : Stand p l e R s m args below meth c T locs cells slots) (hx : p.tables.exec = Jvm.exec) (hlk : meth.locks = false) {pc : Nat} {Ls : Array Slot} {z : Int64} {rest : List Value} (hret : meth.sig.returnType = some .long) (hd : decode c.code pc = .ok (.lreturn, 1)) (hc : cells ≤ kc) (hs : slots ≤ ks) (hq : Q (some (.long z)) T.heap locs) : own_Go p e below (own_End s kc ks Q) T (mkF m pc Ls (.long z :: rest)) :=
  own_fin X hlk (fun q => by rw [hret] at q; cases q) hq hc hs fun fs hr => retOut X hx hret rfl (Or.inr (Or.inl ⟨rfl, rfl, _, rfl⟩)) hd hr
theorem own_retA {kc ks : Nat} {Q : Option Value → Heap → List Loc → Prop} (X : Stand p l e R s m args below meth c T locs cells slots) (hx : p.tables.exec = Jvm.exec) (hlk : meth.locks = false) {pc : Nat} {Ls : Array Slot} {z : Value} {rest : List Value} (hret : meth.sig.returnType = some ty) (ht : ty.isReference = true) (hz : z.isRef = true) (hd : decode c.code pc = .ok (.areturn, 1)) (hc : cells ≤ kc) (hs : slots ≤ ks) (hq : Q (some z) T.heap locs) : own_Go p e below (own_End s kc ks Q) T (mkF m pc Ls (z :: rest)) :=
  own_fin X hlk (fun q => by rw [hret] at q; cases q) hq hc hs fun fs hr => retOut X hx hret (by cases ty <;> first | rfl | cases ht) (Or.inr (Or.inr (Or.inr (Or.inr ⟨rfl, ht, hz⟩)))) hd hr
theorem own_retN {kc ks : Nat} {Q : Option Value → Heap → List Loc → Prop} (X : Stand p l e R s m args below meth c T locs cells slots) (hx : p.tables.exec = Jvm.exec) (hlk : meth.locks = false) {pc : Nat} {Ls : Array Slot} {z : Int32} {rest : List Value} (hret : meth.sig.returnType = some ty) (ht : ty = .boolean ∨ ty = .byte ∨ ty = .char ∨ ty = .short) (hd : decode c.code pc = .ok (.ireturn, 1)) (hc : cells ≤ kc) (hs : slots ≤ ks) (hq : Q (some (.int (nar ty z))) T.heap locs) : own_Go p e below (own_End s kc ks Q) T (mkF m pc Ls (.int z :: rest)) :=
  own_fin X hlk (fun q => by rw [hret] at q; cases q) hq hc hs fun fs hr => retN X hx hret ht hd hr
theorem own_retV {kc ks : Nat} {Q : Option Value → Heap → List Loc → Prop} (X : Stand p l e R s m args below meth c T locs cells slots) (hx : p.tables.exec = Jvm.exec) (hlk : meth.locks = false) {pc : Nat} {Ls : Array Slot} (hret : meth.sig.returnType = none) (hd : decode c.code pc = .ok (.return_, 1)) (hc : cells ≤ kc) (hs : slots ≤ ks) (hq : Q none T.heap locs) : own_Go p e below (own_End s kc ks Q) T (mkF m pc Ls []) :=
  own_fin X hlk (fun _ => rfl) hq hc hs fun fs hr => X.returnOut hx hret hd hr
theorem own_callSt {y : MethodName} {bytes : ByteArray} {maxL : Nat} {ret : Option FieldType} {rm : Room} {Q : Option Value → Heap → List Loc → Prop} (X : Stand p l e R s m args below meth c T locs cells slots) (hx : p.tables.exec = Jvm.exec) (hZ : Z.Warmed39 s.vm) {own : String} {index : Nat} (hown : s.vm.findClass own = some m.cls)
    (w1 : (Jvm.Cond.methodLink own index y).before a0 Z = true) (w2 : (Jvm.Cond.static y).before a0 Z = true) (w3 : (Jvm.Cond.initialized y.cls).before a0 Z = true) (w4 : (Jvm.Cond.code y bytes maxL ret).before a0 Z = true) (hy : y.cls ≠ "java/lang/invoke/MethodHandle" ∧ y.cls ≠ "java/lang/invoke/VarHandle") {argsL rest : List Value}
    (M : own_Met l Z y bytes maxL ret rm argsL.toArray h Q) (eT : T.heap = h) {W : Nat} (hf : rm.frames + 1 ≤ R.frames) (hl : W + (maxL + 11) + rm.locals ≤ R.locals) {g : JFrame} (hg : g.method = m) (hsize : g.locals.size = c.maxLocals) (hlen : ∀ sig, parseMethodDescriptor y.desc = some sig → argsL.length = sig.parameters.length) (hs : g.stack = argsL.reverse ++ rest) (hW : 2 * g.monitorRoom + (rest.map fun v => v.category).sum ≤ W) (hd : decode c.code g.pc = .ok (.invokestatic index, 3)) (hc : cells + rm.cells ≤ R.cells) (hsl : slots + rm.slots ≤ R.slots) :
    ∃ v T' L, Stand p l e R s m args below meth c T' (locs ++ L) (cells + rm.cells) (slots + rm.slots) ∧ Q v T'.heap L ∧ ∀ target, Steps p.tables e below (T'.setTop { g with pc := g.pc + 3, stack := v.toList ++ rest }) target → Steps p.tables e below (T.setTop g) target := by
  obtain ⟨v, _, ⟨T', L', k', n'⟩, -, X', ⟨L, hQ, l1, l2, l3⟩, st⟩ := Jvm.LawKit.callS X hx (y := y) hown (mvT hZ w1) (mvT hZ w2) (mvT hZ w3) (mvT hZ w4) hy (backOf (W := W) (M []) hZ w4 w3 hf hl) hg hsize (argsL := argsL) (rest := rest) hlen hs hW hd (fun _ _ => ⟨rfl, eT, hc, hsl⟩)
  dsimp only [Pt.U, Pt.locs, Pt.cells, Pt.slots] at X' l1 l2 l3 st hQ
  subst l1 l2 l3
  exact ⟨v, T', L, X', hQ, st⟩
theorem own_callSp {y : MethodName} {bytes : ByteArray} {maxL : Nat} {rm : Room} {Q : Option Value → Heap → List Loc → Prop} (X : Stand p l e R s m args below meth c T locs cells slots) (hx : p.tables.exec = Jvm.exec) (hZ : Z.Warmed39 s.vm) {own : String} {index : Nat} (hown : s.vm.findClass own = some m.cls) (hy1 : y.name = "<init>")
    (w1 : (Jvm.Cond.methodLink own index y).before a0 Z = true) (w2 : (Jvm.Cond.instanceMethod y).before a0 Z = true) (w3 : (Jvm.Cond.initialized y.cls).before a0 Z = true) (w4 : (Jvm.Cond.code y bytes maxL none).before a0 Z = true) (hy : y.cls ≠ "java/lang/invoke/MethodHandle" ∧ y.cls ≠ "java/lang/invoke/VarHandle") {argsL rest : List Value}
    (M : own_Met l Z y bytes maxL none rm (.ref a :: argsL).toArray h Q) (eT : T.heap = h) {W : Nat} (hf : rm.frames + 1 ≤ R.frames) (hl : W + (maxL + 11) + rm.locals ≤ R.locals) {g : JFrame} (hg : g.method = m) (hsize : g.locals.size = c.maxLocals) (hlen : ∀ sig, parseMethodDescriptor y.desc = some sig → argsL.length = sig.parameters.length) (hs : g.stack = argsL.reverse ++ .ref a :: rest) (hW : 2 * g.monitorRoom + (rest.map fun v => v.category).sum ≤ W) (hd : decode c.code g.pc = .ok (.invokespecial index, 3)) (hc : cells + rm.cells ≤ R.cells) (hsl : slots + rm.slots ≤ R.slots) :
    ∃ v T' L, Stand p l e R s m args below meth c T' (locs ++ L) (cells + rm.cells) (slots + rm.slots) ∧ Q v T'.heap L ∧ ∀ target, Steps p.tables e below (T'.setTop { g with pc := g.pc + 3, stack := v.toList ++ rest }) target → Steps p.tables e below (T.setTop g) target := by
  obtain ⟨v, _, ⟨T', L', k', n'⟩, -, X', ⟨L, hQ, l1, l2, l3⟩, st⟩ := X.specialBack hx (y := y) hy1 hown (mvT hZ w1) (mvT hZ w2) (mvT hZ w4) hy (backOf (W := W) (M []) hZ w4 w3 hf hl) hg hsize (Steps.refl _) (a := a) (argsL := argsL) (rest := rest) hlen hs hW hd (fun _ _ => ⟨rfl, eT, hc, hsl⟩)
  dsimp only [Pt.U, Pt.locs, Pt.cells, Pt.slots] at X' l1 l2 l3 st hQ
  subst l1 l2 l3
  exact ⟨v, T', L, X', hQ, fun _ k => st.trans k⟩
theorem own_callVi {y z : MethodName} {bytes : ByteArray} {maxL : Nat} {ret : Option FieldType} {rm : Room} {Q : Option Value → Heap → List Loc → Prop} {C : String} (X : Stand p l e R s m args below meth c T locs cells slots) (hx : p.tables.exec = Jvm.exec) (hZ : Z.Warmed39 s.vm) {own : String} {index : Nat} (hown : s.vm.findClass own = some m.cls)
    (w1 : (Jvm.Cond.methodLink own index y).before a0 Z = true) (w2 : (Jvm.Cond.declares y).before a0 Z = true) (nf : NotFace s y) (w5 : (Jvm.Cond.selects C y z).before a0 Z = true) (w6 : (Jvm.Cond.instanceMethod z).before a0 Z = true) (w3 : (Jvm.Cond.initialized z.cls).before a0 Z = true) (w4 : (Jvm.Cond.code z bytes maxL ret).before a0 Z = true) (hy : y.cls ≠ "java/lang/invoke/MethodHandle" ∧ y.cls ≠ "java/lang/invoke/VarHandle") (E : Exa Z h a C) {argsL rest : List Value}
    (M : own_Met l Z z bytes maxL ret rm (.ref a :: argsL).toArray h Q) (eT : T.heap = h) {W : Nat} (hf : rm.frames + 1 ≤ R.frames) (hl : W + (maxL + 11) + rm.locals ≤ R.locals) {g : JFrame} (hg : g.method = m) (hsize : g.locals.size = c.maxLocals) (hlen : ∀ sig, parseMethodDescriptor y.desc = some sig → argsL.length = sig.parameters.length) (hs : g.stack = argsL.reverse ++ .ref a :: rest) (hW : 2 * g.monitorRoom + (rest.map fun v => v.category).sum ≤ W) (hd : decode c.code g.pc = .ok (.invokevirtual index, 3)) (hc : cells + rm.cells ≤ R.cells) (hsl : slots + rm.slots ≤ R.slots) :
    ∃ v T' L, Stand p l e R s m args below meth c T' (locs ++ L) (cells + rm.cells) (slots + rm.slots) ∧ Q v T'.heap L ∧ ∀ target, Steps p.tables e below (T'.setTop { g with pc := g.pc + 3, stack := v.toList ++ rest }) target → Steps p.tables e below (T.setTop g) target := by
  obtain ⟨cq, kq, qa, qb, qc⟩ := isOf hZ eT E
  obtain ⟨v, _, ⟨T', L', k', n'⟩, -, X', ⟨L, hQ, l1, l2, l3⟩, st⟩ := X.virtualBack hx (y := y) (z := z) hown (mvT hZ w1) (mvT hZ w2) nf (mvT hZ w5) (mvT hZ w6) hy (backOf (W := W) (M []) hZ w4 w3 hf hl) qa qc hg hsize (Steps.refl _) (argsL := argsL) (rest := rest) hlen hs hW hd (fun _ _ => ⟨rfl, eT, hc, hsl⟩)
  dsimp only [Pt.U, Pt.locs, Pt.cells, Pt.slots] at X' l1 l2 l3 st hQ
  subst l1 l2 l3
  exact ⟨v, T', L, X', hQ, fun _ k => st.trans k⟩
/-- the whole contents of an array -/
def own_Av (Z : State) (h : Heap) (a : Addr) (ty : FieldType) (vs : List Value) : Prop := ∃ c : Cell, Arr Z h a c ty ∧ c.slots = vs.toArray ∧ vs.length < 2 ^ 31
theorem own_Av.lt (F : own_Av Z h a ty vs) : a < h.size := by obtain ⟨c, A, -⟩ := F; exact A.lt
theorem own_Av.ext (F : own_Av Z h a ty vs) (E : Ext h h') : own_Av Z h' a ty vs := by obtain ⟨c, A, r⟩ := F; exact ⟨c, A.ext E, r⟩
theorem own_Av.other (F : own_Av Z h b ty vs) (W : Wr h h' a sl v) (q : b ≠ a) : own_Av Z h' b ty vs := by obtain ⟨c, A, r⟩ := F; exact ⟨c, A.other W q, r⟩
theorem own_Av.keep (F : own_Av Z h a ty vs) (K : Keep h h' ws) (q : a ∉ ws) : own_Av Z h' a ty vs := by obtain ⟨c, A, r⟩ := F; exact ⟨c, ⟨K.2.1 a c A.1 q, A.2⟩, r⟩
theorem own_Av.len (F : own_Av Z h a ty vs) : vs.length < 2 ^ 31 := by obtain ⟨c, A, r, q⟩ := F; exact q
theorem own_Av.new {k : ClassId} {z : Int32} (A : Arr Z h a (newA k ty z) ty) : own_Av Z h a ty (List.replicate z.toNatClampNeg (defaultValue ty)) := ⟨_, A, by simp [newA], by rw [List.length_replicate]; have := z.toInt_lt; simp only [Int32.toNatClampNeg]; omega⟩
theorem own_Av.set (F : own_Av Z h a ty vs) {j : Nat} (W : Wr h h' a j v) : own_Av Z h' a ty (vs.set j v) := by
  obtain ⟨c, A, r, q⟩ := F
  refine ⟨_, A.same W, ?_, by rw [List.length_set]; exact q⟩
  simp [Cell.setSlot, r]
theorem own_in {c : Cell} {j : Int32} (r : c.slots = vs.toArray) (hj : ¬ j < 0) (hl : j.toNatClampNeg < vs.length) : ¬ (j < 0 ∨ c.slots.size ≤ j.toNatClampNeg) := by
  rw [r]; simp; exact ⟨Int32.not_lt.mp hj, hl⟩
theorem own_lt_of {α : Type} {vs : List α} {j : Nat} {v : α} (q : vs[j]? = some v) : j < vs.length := (List.getElem?_eq_some_iff.mp q).1
theorem own_ldI (X : Stand p l e R s m args below meth c T locs cells slots) (hx : p.tables.exec = Jvm.exec) (hZ : Z.Warmed39 s.vm) (eT : T.heap = h) (F : own_Av Z h a .int vs) {j : Int32} (hj : ¬ j < 0) (hv : vs[j.toNatClampNeg]? = some v) {g : JFrame} (hg : g.method = m) {rest : List Value} (hs : g.stack = .int j :: .ref a :: rest) (hd : decode c.code g.pc = .ok (.iaload, 1)) :
    ∀ target, Steps p.tables e below (T.setTop { g with pc := g.pc + 1, stack := v :: rest }) target → Steps p.tables e below (T.setTop g) target := by
  obtain ⟨cl, A, r, -⟩ := F
  exact X.iaload hx (j := j) (v := v) (by rw [eT]; exact A.1) (State.isArrayOf_alike hZ.alike A.2.1) A.2.2 (own_in r hj (own_lt_of hv)) (by rw [r]; simpa using hv) hg hs hd
theorem own_ldJ (X : Stand p l e R s m args below meth c T locs cells slots) (hx : p.tables.exec = Jvm.exec) (hZ : Z.Warmed39 s.vm) (eT : T.heap = h) (F : own_Av Z h a .long vs) {j : Int32} (hj : ¬ j < 0) (hv : vs[j.toNatClampNeg]? = some v) {g : JFrame} (hg : g.method = m) {rest : List Value} (hs : g.stack = .int j :: .ref a :: rest) (hd : decode c.code g.pc = .ok (.laload, 1)) :
    ∀ target, Steps p.tables e below (T.setTop { g with pc := g.pc + 1, stack := v :: rest }) target → Steps p.tables e below (T.setTop g) target := by
  obtain ⟨cl, A, r, -⟩ := F
  exact X.laload hx (j := j) (v := v) (by rw [eT]; exact A.1) (State.isArrayOf_alike hZ.alike A.2.1) A.2.2 (own_in r hj (own_lt_of hv)) (by rw [r]; simpa using hv) hg hs hd
theorem own_ldB (X : Stand p l e R s m args below meth c T locs cells slots) (hx : p.tables.exec = Jvm.exec) (hZ : Z.Warmed39 s.vm) (eT : T.heap = h) (F : own_Av Z h a .byte vs) {j : Int32} (hj : ¬ j < 0) (hv : vs[j.toNatClampNeg]? = some v) {g : JFrame} (hg : g.method = m) {rest : List Value} (hs : g.stack = .int j :: .ref a :: rest) (hd : decode c.code g.pc = .ok (.baload, 1)) :
    ∀ target, Steps p.tables e below (T.setTop { g with pc := g.pc + 1, stack := v :: rest }) target → Steps p.tables e below (T.setTop g) target := by
  obtain ⟨cl, A, r, -⟩ := F
  exact X.baloadBytes hx (j := j) (v := v) (by rw [eT]; exact A.1) (State.isArrayOf_alike hZ.alike A.2.1) A.2.2 (own_in r hj (own_lt_of hv)) (by rw [r]; simpa using hv) hg hs hd
theorem own_ldZ (X : Stand p l e R s m args below meth c T locs cells slots) (hx : p.tables.exec = Jvm.exec) (hZ : Z.Warmed39 s.vm) (eT : T.heap = h) (F : own_Av Z h a .boolean vs) {j : Int32} (hj : ¬ j < 0) (hv : vs[j.toNatClampNeg]? = some v) {g : JFrame} (hg : g.method = m) {rest : List Value} (hs : g.stack = .int j :: .ref a :: rest) (hd : decode c.code g.pc = .ok (.baload, 1)) :
    ∀ target, Steps p.tables e below (T.setTop { g with pc := g.pc + 1, stack := v :: rest }) target → Steps p.tables e below (T.setTop g) target := by
  obtain ⟨cl, A, r, -⟩ := F
  exact X.baloadBooleans hx (j := j) (v := v) (by rw [eT]; exact A.1) (State.isArrayOf_alike hZ.alike A.2.1) A.2.2 (own_in r hj (own_lt_of hv)) (by rw [r]; simpa using hv) hg hs hd
theorem own_alen (X : Stand p l e R s m args below meth c T locs cells slots) (hx : p.tables.exec = Jvm.exec) (hZ : Z.Warmed39 s.vm) (eT : T.heap = h) (F : own_Av Z h a ty vs) {n : Int32} (hn : vs.length.toInt32 = n) {g : JFrame} (hg : g.method = m) {rest : List Value} (hs : g.stack = .ref a :: rest) (hd : decode c.code g.pc = .ok (.arraylength, 1)) :
    ∀ target, Steps p.tables e below (T.setTop { g with pc := g.pc + 1, stack := .int n :: rest }) target → Steps p.tables e below (T.setTop g) target := by
  obtain ⟨cl, A, r, -⟩ := F
  have q := X.arraylength hx (by rw [eT]; exact A.1) (State.isArrayOf_alike hZ.alike A.2.1) hg hs hd
  have e1 : cl.slots.size.toInt32 = n := by rw [r]; simpa using hn
  rw [e1] at q; exact q
theorem own_stI (X : Stand p l e R s m args below meth c T locs cells slots) (hx : p.tables.exec = Jvm.exec) (hZ : Z.Warmed39 s.vm) (eT : T.heap = h) (F : own_Av Z h a .int vs) {j x : Int32} (hj : ¬ j < 0) (hl : j.toNatClampNeg < vs.length) {g : JFrame} (hg : g.method = m) {rest : List Value} (hs : g.stack = .int x :: .int j :: .ref a :: rest) (hd : decode c.code g.pc = .ok (.iastore, 1)) :
    ∃ T' h', Stand p l e R s m args below meth c T' (locs ++ [⟨a, j.toNatClampNeg⟩]) cells slots ∧ T'.heap = h' ∧ Wr h h' a j.toNatClampNeg (.int x) ∧ own_Av Z h' a .int (vs.set j.toNatClampNeg (.int x)) ∧ ∀ target, Steps p.tables e below (T'.setTop { g with pc := g.pc + 1, stack := rest }) target → Steps p.tables e below (T.setTop g) target := by
  obtain ⟨cl, A, r, q⟩ := F
  obtain ⟨T', h', X', e', W, st⟩ := stI X hx hZ eT A (own_in r hj hl) hg hs hd
  exact ⟨T', h', X', e', W, own_Av.set ⟨cl, A, r, q⟩ W, st⟩
theorem own_stJ (X : Stand p l e R s m args below meth c T locs cells slots) (hx : p.tables.exec = Jvm.exec) (hZ : Z.Warmed39 s.vm) (eT : T.heap = h) (F : own_Av Z h a .long vs) {j : Int32} {x : Int64} (hj : ¬ j < 0) (hl : j.toNatClampNeg < vs.length) {g : JFrame} (hg : g.method = m) {rest : List Value} (hs : g.stack = .long x :: .int j :: .ref a :: rest) (hd : decode c.code g.pc = .ok (.lastore, 1)) :
    ∃ T' h', Stand p l e R s m args below meth c T' (locs ++ [⟨a, j.toNatClampNeg⟩]) cells slots ∧ T'.heap = h' ∧ Wr h h' a j.toNatClampNeg (.long x) ∧ own_Av Z h' a .long (vs.set j.toNatClampNeg (.long x)) ∧ ∀ target, Steps p.tables e below (T'.setTop { g with pc := g.pc + 1, stack := rest }) target → Steps p.tables e below (T.setTop g) target := by
  obtain ⟨cl, A, r, q⟩ := F
  obtain ⟨T', h', X', e', W, st⟩ := stJ X hx hZ eT A (own_in r hj hl) hg hs hd
  exact ⟨T', h', X', e', W, own_Av.set ⟨cl, A, r, q⟩ W, st⟩
theorem own_stB (X : Stand p l e R s m args below meth c T locs cells slots) (hx : p.tables.exec = Jvm.exec) (hZ : Z.Warmed39 s.vm) (eT : T.heap = h) (F : own_Av Z h a .byte vs) {j x : Int32} (hj : ¬ j < 0) (hl : j.toNatClampNeg < vs.length) {g : JFrame} (hg : g.method = m) {rest : List Value} (hs : g.stack = .int x :: .int j :: .ref a :: rest) (hd : decode c.code g.pc = .ok (.bastore, 1)) :
    ∃ T' h', Stand p l e R s m args below meth c T' (locs ++ [⟨a, j.toNatClampNeg⟩]) cells slots ∧ T'.heap = h' ∧ Wr h h' a j.toNatClampNeg (.int x.toInt8.toInt32) ∧ own_Av Z h' a .byte (vs.set j.toNatClampNeg (.int x.toInt8.toInt32)) ∧ ∀ target, Steps p.tables e below (T'.setTop { g with pc := g.pc + 1, stack := rest }) target → Steps p.tables e below (T.setTop g) target := by
  obtain ⟨cl, A, r, q⟩ := F
  obtain ⟨T', h', X', e', W, st⟩ := stB X hx hZ eT A (own_in r hj hl) hg hs hd
  exact ⟨T', h', X', e', W, own_Av.set ⟨cl, A, r, q⟩ W, st⟩
theorem own_stZ (X : Stand p l e R s m args below meth c T locs cells slots) (hx : p.tables.exec = Jvm.exec) (hZ : Z.Warmed39 s.vm) (eT : T.heap = h) (F : own_Av Z h a .boolean vs) {j x : Int32} (hj : ¬ j < 0) (hl : j.toNatClampNeg < vs.length) {g : JFrame} (hg : g.method = m) {rest : List Value} (hs : g.stack = .int x :: .int j :: .ref a :: rest) (hd : decode c.code g.pc = .ok (.bastore, 1)) :
    ∃ T' h', Stand p l e R s m args below meth c T' (locs ++ [⟨a, j.toNatClampNeg⟩]) cells slots ∧ T'.heap = h' ∧ Wr h h' a j.toNatClampNeg (.int (x &&& 1)) ∧ own_Av Z h' a .boolean (vs.set j.toNatClampNeg (.int (x &&& 1))) ∧ ∀ target, Steps p.tables e below (T'.setTop { g with pc := g.pc + 1, stack := rest }) target → Steps p.tables e below (T.setTop g) target := by
  obtain ⟨cl, A, r, q⟩ := F
  obtain ⟨T', h', X', e', W, st⟩ := stZ X hx hZ eT A (own_in r hj hl) hg hs hd
  exact ⟨T', h', X', e', W, own_Av.set ⟨cl, A, r, q⟩ W, st⟩
theorem own_len {t : Term} {n : Int32} {cl : Cell} (q : (Jvm.Cond.eq (.length t) (.int n)).value args s none s [] = some true) (ht : t.eval args s none [] s = some (.ref a)) (A : Arr s s.heap a cl ty) (hn : ¬ n < 0) : cl.slots.size = n.toNatClampNeg := by
  have ha := Arr.fin (State.Warmed39.refl s).alike A
  by_cases hl : cl.slots.size < 2 ^ 31
  · have e1 := len_f (t := t) ht ha hl
    have e2 : cl.slots.size.toInt32 = n := by
      simp only [Cond.value, e1] at q
      simpa [Term.eval] using q
    rw [← e2]
    simp only [Int32.toNatClampNeg, len_toInt hl]; rfl
  · exfalso
    have e1 : (Term.length t).eval args s none [] s = none := by
      have hl' : ¬ cl.slots.size < 2147483648 := hl
      simp [Term.eval, ht, ha, hl']
    simp [Cond.value, e1] at q
theorem own_elemJ {t : Term} {j : Int32} {v : Int64} {cl : Cell} (q : (Jvm.Cond.eq (.elem t (.int j)) (.long v)).value args s none s [] = some true) (ht : t.eval args s none [] s = some (.ref a)) (A : Arr s s.heap a cl ty) : cl.slots[j.toNatClampNeg]? = some (.long v) := by
  cases e1 : (Term.elem t (.int j)).eval args s none [] s with
  | none => simp [Cond.value, e1] at q
  | some x =>
    have e2 := (elem_in e1 ht rfl A.1).2
    rw [e2]
    simp only [Cond.value, e1] at q
    cases x <;> simp [Term.eval] at q
    rw [q]
theorem own_elemI {t : Term} {j : Int32} {v : Int32} {cl : Cell} (q : (Jvm.Cond.eq (.elem t (.int j)) (.int v)).value args s none s [] = some true) (ht : t.eval args s none [] s = some (.ref a)) (A : Arr s s.heap a cl ty) : cl.slots[j.toNatClampNeg]? = some (.int v) := by
  cases e1 : (Term.elem t (.int j)).eval args s none [] s with
  | none => simp [Cond.value, e1] at q
  | some x =>
    have e2 := (elem_in e1 ht rfl A.1).2
    rw [e2]
    simp only [Cond.value, e1] at q
    cases x <;> simp [Term.eval] at q
    rw [q]
theorem own_Av.of {cl : Cell} (A : Arr Z h a cl ty) (hs : cl.slots.size = vs.length) (hv : ∀ i, i < vs.length → cl.slots[i]? = vs[i]?) (hl : vs.length < 2 ^ 31) : own_Av Z h a ty vs := by
  refine ⟨cl, A, ?_, hl⟩
  apply Array.ext
  · simpa using hs
  · intro i h1 h2
    have h3 : i < vs.length := by rw [← hs]; exact h1
    have := hv i h3
    rw [Array.getElem?_eq_getElem h1, List.getElem?_eq_getElem h3] at this
    simpa using this
theorem own_Sta.keep0 {C n d : String} (F : Sta Z h C n d v) (K : Keep h h' []) : Sta Z h' C n d v := by
  obtain ⟨cf, i, k, f, st, cell, h1, h2, h3, h4, h5, r⟩ := F; exact ⟨cf, i, k, f, st, cell, h1, h2, h3, h4, K.2.1 _ _ h5 nin0, r⟩
theorem own_fldJ {t : Term} {C n d : String} {z : Int64} (q : (Jvm.Cond.eq (.field t C n d) (.long z)).value args s none s [] = some true) (ht : t.eval args s none [] s = some (.ref a)) : Fld s s.heap a C n d (.long z) := by
  have e0 := fld_at (C := C) (n := n) (dd := d) ht
  refine Fld.start ?_
  cases e1 : s.fieldOf? a C n d with
  | none => rw [e1] at e0; simp [Cond.value, e0] at q
  | some x =>
    rw [e1] at e0
    simp only [Cond.value, e0] at q
    cases x <;> simp [Term.eval] at q
    rw [q]
theorem own_cloneI (X : Stand p l e R s m args below meth c T locs cells slots) (hx : p.tables.exec = Jvm.exec) (hZ : Z.Warmed39 s.vm) {own : String} {index : Nat} (hown : s.vm.findClass own = some m.cls)
    (w1 : (Jvm.Cond.methodLink own index ⟨"[I", "clone", "()Ljava/lang/Object;"⟩).before a0 Z = true) (w2 : (Jvm.Cond.sameMethod "[I" "java/lang/Object" "clone" "()Ljava/lang/Object;").before a0 Z = true) (w3 : (Jvm.Cond.native ⟨"java/lang/Object", "clone", "()Ljava/lang/Object;"⟩).before a0 Z = true)
    (w4 : (Jvm.Cond.instanceMethod ⟨"java/lang/Object", "clone", "()Ljava/lang/Object;"⟩).before a0 Z = true) (w5 : (Jvm.Cond.selects "[I" ⟨"[I", "clone", "()Ljava/lang/Object;"⟩ ⟨"java/lang/Object", "clone", "()Ljava/lang/Object;"⟩).before a0 Z = true) (w6 : (Jvm.Cond.castable "[I" "java/lang/Cloneable").before a0 Z = true)
    (eT : T.heap = h) {I : List Int32} (F : own_Av Z h a .int (I.map Value.int)) (E : Exa Z h a "[I") {g : JFrame} (hg : g.method = m) (hsize : g.locals.size = c.maxLocals) {rest : List Value} (hs : g.stack = .ref a :: rest) (hd : decode c.code g.pc = .ok (.invokevirtual index, 3))
    (hf : 1 ≤ R.frames) {W cap : Nat} (hW : 2 * g.monitorRoom + (rest.map fun v => v.category).sum ≤ W) (hl : W + 14 ≤ R.locals) (hcap : I.length ≤ cap) (hc : cells + 1 ≤ R.cells) (hsl : slots + cap ≤ R.slots) :
    ∃ T' h', Stand p l e R s m args below meth c T' locs (cells + 1) (slots + cap) ∧ T'.heap = h' ∧ Ext h h' ∧ own_Av Z h' h.size .int (I.map Value.int) ∧ Exa Z h' h.size "[I" ∧
      ∀ target, Steps p.tables e below (T'.setTop { g with pc := g.pc + 3, stack := .ref h.size :: rest }) target → Steps p.tables e below (T.setTop g) target := by
  obtain ⟨cl, A, r, q⟩ := F
  have FC : FitC Z cl := fitC_of A fun i hi v hv => by
    rw [r] at hv
    simp only [List.getElem?_toArray, List.getElem?_map, Option.map_eq_some_iff] at hv
    obtain ⟨z, -, rfl⟩ := hv
    rfl
  obtain ⟨T', h', X', e', ex, A', E', st⟩ := cloneA X hx hZ hown w1 w2 w3 w4 w5 w6 eT A E FC hg hsize hs hd hf hW hl (by rw [r]; simpa using hcap) hc hsl
  exact ⟨T', h', X', e', ex, ⟨cloneOf cl, A', r, q⟩, E', st⟩
theorem own_callPr {y y' : MethodName} {bytes : ByteArray} {maxL : Nat} {ret : Option FieldType} {rm : Room} {Q : Option Value → Heap → List Loc → Prop} (X : Stand p l e R s m args below meth c T locs cells slots) (hx : p.tables.exec = Jvm.exec) (hZ : Z.Warmed39 s.vm) {own : String} {index : Nat} (hown : s.vm.findClass own = some m.cls)
    (w1 : (Jvm.Cond.methodLink own index y).before a0 Z = true) (w2 : (Jvm.Cond.privateMethod y).before a0 Z = true) (w6 : (Jvm.Cond.instanceMethod y).before a0 Z = true) (w3 : (Jvm.Cond.initialized y.cls).before a0 Z = true) (w4 : (Jvm.Cond.code y bytes maxL ret).before a0 Z = true) (w7 : (Jvm.Cond.selects y.cls y' y').before a0 Z = true) (w8 : (Jvm.Cond.instanceMethod y').before a0 Z = true) (hcl : y'.cls = y.cls) (hy : y.cls ≠ "java/lang/invoke/MethodHandle" ∧ y.cls ≠ "java/lang/invoke/VarHandle") {C : String} (E : Exa Z h a C) {argsL rest : List Value}
    (M : own_Met l Z y bytes maxL ret rm (.ref a :: argsL).toArray h Q) (eT : T.heap = h) {W : Nat} (hf : rm.frames + 1 ≤ R.frames) (hl : W + (maxL + 11) + rm.locals ≤ R.locals) {g : JFrame} (hg : g.method = m) (hsize : g.locals.size = c.maxLocals) (hlen : ∀ sig, parseMethodDescriptor y.desc = some sig → argsL.length = sig.parameters.length) (hs : g.stack = argsL.reverse ++ .ref a :: rest) (hW : 2 * g.monitorRoom + (rest.map fun v => v.category).sum ≤ W) (hd : decode c.code g.pc = .ok (.invokevirtual index, 3)) (hc : cells + rm.cells ≤ R.cells) (hsl : slots + rm.slots ≤ R.slots) :
    ∃ v T' L, Stand p l e R s m args below meth c T' (locs ++ L) (cells + rm.cells) (slots + rm.slots) ∧ Q v T'.heap L ∧ ∀ target, Steps p.tables e below (T'.setTop { g with pc := g.pc + 3, stack := v.toList ++ rest }) target → Steps p.tables e below (T.setTop g) target := by
  obtain ⟨cq, qa, qb⟩ := E.cell
  have nf := notFace_of_selects (args := #[]) (mvT hZ w7)
  obtain ⟨mk', meth', hn', -⟩ := Cond.instanceMethod_spec (mvT (args := #[]) hZ w8)
  obtain ⟨k', hk', hni⟩ := nf mk' hn'
  have hc' := findClass_of_methodNamed hn'
  rw [hcl] at hc'
  have hpriv := Cond.privateMethod_at (mvP hZ w2 (args := #[]))
  have hsel := selects_self_of_private (args := args) hc' hk' hni hpriv (mvT hZ w6) hy
  obtain ⟨v, _, ⟨T', L', k', n'⟩, -, X', ⟨L, hQ, l1, l2, l3⟩, st⟩ := X.privateBack hx (y := y) hown (mvT hZ w1) (mvT hZ w6) hsel hpriv (mvT hZ w4) hy (backOf (W := W) (M []) hZ w4 w3 hf hl) hg hsize (Steps.refl _) (a := a) (by rw [eT]; exact qa) qb (argsL := argsL) (rest := rest) hlen hs hW hd (fun _ _ => ⟨rfl, eT, hc, hsl⟩)
  dsimp only [Pt.U, Pt.locs, Pt.cells, Pt.slots] at X' l1 l2 l3 st hQ
  subst l1 l2 l3
  exact ⟨v, T', L, X', hQ, fun _ k => st.trans k⟩
theorem own_clone {ad : String} (X : Stand p l e R s m args below meth c T locs cells slots) (hx : p.tables.exec = Jvm.exec) (hZ : Z.Warmed39 s.vm) {own : String} {index : Nat} (hown : s.vm.findClass own = some m.cls)
    (w1 : (Jvm.Cond.methodLink own index ⟨ad, "clone", "()Ljava/lang/Object;"⟩).before a0 Z = true) (w2 : (Jvm.Cond.sameMethod ad "java/lang/Object" "clone" "()Ljava/lang/Object;").before a0 Z = true) (w3 : (Jvm.Cond.native ⟨"java/lang/Object", "clone", "()Ljava/lang/Object;"⟩).before a0 Z = true)
    (w4 : (Jvm.Cond.instanceMethod ⟨"java/lang/Object", "clone", "()Ljava/lang/Object;"⟩).before a0 Z = true) (w5 : (Jvm.Cond.selects ad ⟨ad, "clone", "()Ljava/lang/Object;"⟩ ⟨"java/lang/Object", "clone", "()Ljava/lang/Object;"⟩).before a0 Z = true) (w6 : (Jvm.Cond.castable ad "java/lang/Cloneable").before a0 Z = true)
    (eT : T.heap = h) (F : own_Av Z h a ty vs) (hfit : ∀ v ∈ vs, fits ty v = true) (E : Exa Z h a ad) {g : JFrame} (hg : g.method = m) (hsize : g.locals.size = c.maxLocals) {rest : List Value} (hs : g.stack = .ref a :: rest) (hd : decode c.code g.pc = .ok (.invokevirtual index, 3))
    (hf : 1 ≤ R.frames) {W cap : Nat} (hW : 2 * g.monitorRoom + (rest.map fun v => v.category).sum ≤ W) (hl : W + 14 ≤ R.locals) (hcap : vs.length ≤ cap) (hc : cells + 1 ≤ R.cells) (hsl : slots + cap ≤ R.slots) :
    ∃ T' h', Stand p l e R s m args below meth c T' locs (cells + 1) (slots + cap) ∧ T'.heap = h' ∧ Ext h h' ∧ own_Av Z h' h.size ty vs ∧ Exa Z h' h.size ad ∧
      ∀ target, Steps p.tables e below (T'.setTop { g with pc := g.pc + 3, stack := .ref h.size :: rest }) target → Steps p.tables e below (T.setTop g) target := by
  obtain ⟨cl, A, r, q⟩ := F
  have FC : FitC Z cl := fitC_of A fun i hi v hv => by
    rw [r] at hv
    simp only [List.getElem?_toArray] at hv
    exact hfit v (List.mem_of_getElem? hv)
  obtain ⟨T', h', X', e', ex, A', E', st⟩ := cloneA X hx hZ hown w1 w2 w3 w4 w5 w6 eT A E FC hg hsize hs hd hf hW hl (by rw [r]; simpa using hcap) hc hsl
  exact ⟨T', h', X', e', ex, ⟨cloneOf cl, A', r, q⟩, E', st⟩
theorem own_Av.arv (F : own_Av Z h a ty vs) {dv : Value} (hfit : ∀ v ∈ vs, fits ty v = true) : ∃ k, Arv Z h a k ty vs.length.toInt32 vs dv := by
  obtain ⟨cl, A, r, q⟩ := F
  have e1 : vs.length.toInt32.toNatClampNeg = vs.length := by simp only [Int32.toNatClampNeg, len_toInt q]; rfl
  have hs : cl.slots.size = vs.length := by rw [r]; simp
  refine ⟨cl.cls, cl, A, rfl, by rw [e1, hs], ?_, fun k hk => ?_, fun i hi => ?_⟩
  · rw [Int32.lt_iff_toInt_lt, len_toInt q]; have : (0 : Int32).toInt = 0 := by decide
    omega
  · rw [hs] at hk; rw [r]; simp [List.getD_eq_getElem?_getD, List.getElem?_eq_getElem hk]
  · rw [hs] at hi
    have : vs.getD i dv = vs[i] := by simp [List.getD_eq_getElem?_getD, List.getElem?_eq_getElem hi]
    rw [this]; exact hfit _ (List.getElem_mem hi)
theorem own_stC (X : Stand p l e R s m args below meth c T locs cells slots) (hx : p.tables.exec = Jvm.exec) (hZ : Z.Warmed39 s.vm) (eT : T.heap = h) (F : own_Av Z h a .char vs) {j x : Int32} (hj : ¬ j < 0) (hl : j.toNatClampNeg < vs.length) {g : JFrame} (hg : g.method = m) {rest : List Value} (hs : g.stack = .int x :: .int j :: .ref a :: rest) (hd : decode c.code g.pc = .ok (.castore, 1)) :
    ∃ T' h', Stand p l e R s m args below meth c T' (locs ++ [⟨a, j.toNatClampNeg⟩]) cells slots ∧ T'.heap = h' ∧ Wr h h' a j.toNatClampNeg (.int x.toUInt32.toUInt16.toUInt32.toInt32) ∧ own_Av Z h' a .char (vs.set j.toNatClampNeg (.int x.toUInt32.toUInt16.toUInt32.toInt32)) ∧ ∀ target, Steps p.tables e below (T'.setTop { g with pc := g.pc + 1, stack := rest }) target → Steps p.tables e below (T.setTop g) target := by
  obtain ⟨cl, A, r, q⟩ := F
  obtain ⟨T', h', X', e', W, st⟩ := stC X hx hZ eT A (own_in r hj hl) hg hs hd
  exact ⟨T', h', X', e', W, own_Av.set ⟨cl, A, r, q⟩ W, st⟩
theorem own_ne_of (q : a < h.size) (r : h.size ≤ b) : a ≠ b := Nat.ne_of_lt (Nat.lt_of_lt_of_le q r)
end Own
theorem own_d2_0 : decode prog_24_method_1_code 0 = .ok (.aload_n 0, 1) := by decide +kernel
theorem own_d2_1 : decode prog_24_method_1_code 1 = .ok (.invokespecial 1, 3) := by decide +kernel
theorem own_d2_4 : decode prog_24_method_1_code 4 = .ok (.aload_n 0, 1) := by decide +kernel
theorem own_d2_5 : decode prog_24_method_1_code 5 = .ok (.lload_n 1, 1) := by decide +kernel
theorem own_d2_6 : decode prog_24_method_1_code 6 = .ok (.putfield 7, 3) := by decide +kernel
theorem own_d2_9 : decode prog_24_method_1_code 9 = .ok (.aload_n 0, 1) := by decide +kernel
theorem own_d2_10 : decode prog_24_method_1_code 10 = .ok (.lload_n 3, 1) := by decide +kernel
theorem own_d2_11 : decode prog_24_method_1_code 11 = .ok (.putfield 13, 3) := by decide +kernel
theorem own_d2_14 : decode prog_24_method_1_code 14 = .ok (.return_, 1) := by decide +kernel
theorem own_pn0 : plainName "com/example/surrogate/surrogate/KeyRange" = true := by first | (simp [plainName, overriddenIn]; done) | decide +kernel
theorem own_mt2_ef (m : MethodId) (x0 : Addr) (x1 : Int64) (x2 : Int64) : entryFrame m #[(.ref x0), (.long x1), (.long x2)] 5 = mkF m 0 #[.val (.ref x0), .val (.long x1), .second, .val (.long x2), .second] [] := by first | rfl | (simp [entryFrame, mkF, argsToLocals, Value.category]; done)
set_option maxRecDepth 65536 in
set_option maxHeartbeats 40000000 in
theorem own_mt2 (l : Launch) (Z : State) (a0 : Array Value) (hw : ∀ d ∈ tables_1, d.before a0 Z = true) (x0 : Addr) (x1 : Int64) (x2 : Int64) (h0 : Heap) (n0 : Nat) (Z0 : n0 ≤ h0.size) (ge_x0 : n0 ≤ x0) (E_x0 : Exa Z h0 x0 "com/example/surrogate/surrogate/KeyRange") (F_lowest : Fld Z h0 x0 "com/example/surrogate/surrogate/KeyRange" "lowest" "J" (.long (0 : Int64))) (F_highest : Fld Z h0 x0 "com/example/surrogate/surrogate/KeyRange" "highest" "J" (.long (0 : Int64))) :
    own_Met l Z (⟨"com/example/surrogate/surrogate/KeyRange", "<init>", "(JJ)V"⟩ : MethodName) prog_24_method_1_code 5 none ({ frames := 1, cells := 0, slots := 0, locals := 12 } : Room) #[(.ref x0), (.long x1), (.long x2)] h0 (fun v h L => v = none ∧ Fr n0 L ∧ Keep h0 h [x0] ∧ Exa Z h x0 "com/example/surrogate/surrogate/KeyRange" ∧ Fld Z h x0 "com/example/surrogate/surrogate/KeyRange" "lowest" "J" (.long x1) ∧ Fld Z h x0 "com/example/surrogate/surrogate/KeyRange" "highest" "J" (.long x2)) := by
  refine own_intro (plainFor_of_name own_pn0) ?_
  intro p e s m below meth c s₁ hx hby hml hown hnm hZ hret hlk X0 e0
  refine own_cast (own_mt2_ef m x0 x1 x2) ?_
  have N0 := Fr.nil n0
  have K0 : Keep h0 h0 [x0] := Keep.refl _ _
  refine own_via (T' := s₁) (g' := (mkF m 1 #[.val (.ref x0), .val (.long x1), .second, .val (.long x2), .second] [(.ref x0)])) (fun t k => XS.aloadN X0.here hx rfl (hb hby own_d2_0) rfl rfl k) ?_
  obtain ⟨T1, X1, e1, st1⟩ := initO X0 hx hZ hown (hw _ (List.mem_of_getElem? (i := 9) rfl)) (hw _ (List.mem_of_getElem? (i := 10) rfl)) (hw _ (List.mem_of_getElem? (i := 11) rfl)) e0 (g := (mkF m 1 #[.val (.ref x0), .val (.long x1), .second, .val (.long x2), .second] [(.ref x0)])) rfl (by rw [hml]; rfl) rfl (hb hby own_d2_1) (by decide) (W := 0) (by show 2 * 0 + _ ≤ _; exact Nat.le_of_eq rfl) (by decide)
  refine own_via (T' := T1) (g' := (mkF m 4 #[.val (.ref x0), .val (.long x1), .second, .val (.long x2), .second] [])) st1 ?_
  refine own_via (T' := T1) (g' := (mkF m 6 #[.val (.ref x0), .val (.long x1), .second, .val (.long x2), .second] [(.long x1), (.ref x0)])) (fun t k => XS.aloadN X1.here hx rfl (hb hby own_d2_4) rfl rfl (XS.lloadN X1.here hx rfl (hb hby own_d2_5) rfl k)) ?_
  obtain ⟨T2, h2, X2, e2, W2, st2⟩ := putF X1 hx hZ hown (host := "") (Or.inl (hw _ (List.mem_of_getElem? (i := 12) rfl))) Via.refl e1 F_lowest E_x0 (Or.inr ⟨(hw _ (List.mem_of_getElem? (i := 13) rfl)), rfl, hnm⟩) (hw _ (List.mem_of_getElem? (i := 5) rfl)) (ty := .long) (by decide) rfl rfl (g := (mkF m 6 #[.val (.ref x0), .val (.long x1), .second, .val (.long x2), .second] [(.long x1), (.ref x0)])) rfl rfl (hb hby own_d2_6)
  have Fw2 := F_lowest.same W2
  have E_x0_at3 := E_x0.wr W2
  have F_highest_at4 := F_highest.other W2 (Or.inr (slot_ne (Or.inr (hw _ (List.mem_of_getElem? (i := 15) rfl))) (Or.inr (hw _ (List.mem_of_getElem? (i := 13) rfl))) (by decide) (t := .long) (t' := .long) (by decide) (by decide)))
  have N2 := Fr.snoc X2 N0 ge_x0
  have K2 : Keep h0 h2 [x0] := K0.wr W2 (Or.inl (List.mem_of_getElem? (i := 0) rfl))
  refine own_via (T' := T2) (g' := (mkF m 9 #[.val (.ref x0), .val (.long x1), .second, .val (.long x2), .second] [])) st2 ?_
  refine own_via (T' := T2) (g' := (mkF m 11 #[.val (.ref x0), .val (.long x1), .second, .val (.long x2), .second] [(.long x2), (.ref x0)])) (fun t k => XS.aloadN X2.here hx rfl (hb hby own_d2_9) rfl rfl (XS.lloadN X2.here hx rfl (hb hby own_d2_10) rfl k)) ?_
  obtain ⟨T5, h5, X5, e5, W5, st5⟩ := putF X2 hx hZ hown (host := "") (Or.inl (hw _ (List.mem_of_getElem? (i := 14) rfl))) Via.refl e2 F_highest_at4 E_x0_at3 (Or.inr ⟨(hw _ (List.mem_of_getElem? (i := 15) rfl)), rfl, hnm⟩) (hw _ (List.mem_of_getElem? (i := 5) rfl)) (ty := .long) (by decide) rfl rfl (g := (mkF m 11 #[.val (.ref x0), .val (.long x1), .second, .val (.long x2), .second] [(.long x2), (.ref x0)])) rfl rfl (hb hby own_d2_11)
  have Fw5 := F_highest_at4.same W5
  have E_x0_at6 := E_x0_at3.wr W5
  have Fw2_at7 := Fw2.other W5 (Or.inr (slot_ne (Or.inr (hw _ (List.mem_of_getElem? (i := 13) rfl))) (Or.inr (hw _ (List.mem_of_getElem? (i := 15) rfl))) (by decide) (t := .long) (t' := .long) (by decide) (by decide)))
  have N5 := Fr.snoc X5 N2 ge_x0
  have K5 : Keep h0 h5 [x0] := K2.wr W5 (Or.inl (List.mem_of_getElem? (i := 0) rfl))
  refine own_via (T' := T5) (g' := (mkF m 14 #[.val (.ref x0), .val (.long x1), .second, .val (.long x2), .second] [])) st5 ?_
  refine own_retV X5 hx hlk hret (hb hby own_d2_14) (by decide) (by decide) ?_
  rw [e5]; exact ⟨rfl, N5, K5, E_x0_at6, Fw2_at7, Fw5⟩
theorem own_d5_0 : decode prog_24_method_4_code 0 = .ok (.aload_n 0, 1) := by decide +kernel
theorem own_d5_1 : decode prog_24_method_4_code 1 = .ok (.getfield 7, 3) := by decide +kernel
theorem own_d5_4 : decode prog_24_method_4_code 4 = .ok (.lreturn, 1) := by decide +kernel
def own_low (lo : Int64) : Int64 := lo
theorem own_mt5_ef (m : MethodId) (x0 : Addr) : entryFrame m #[(.ref x0)] 1 = mkF m 0 #[.val (.ref x0)] [] := by first | rfl | (simp [entryFrame, mkF, argsToLocals, Value.category]; done)
set_option maxRecDepth 65536 in
set_option maxHeartbeats 40000000 in
theorem own_mt5 (l : Launch) (Z : State) (a0 : Array Value) (hw : ∀ d ∈ tables_1, d.before a0 Z = true) (x0 : Addr) (lo : Int64) (h0 : Heap) (F_lowest : Fld Z h0 x0 "com/example/surrogate/surrogate/KeyRange" "lowest" "J" (.long lo)) :
    own_Met l Z (⟨"com/example/surrogate/surrogate/KeyRange", "lowest", "()J"⟩ : MethodName) prog_24_method_4_code 1 (some .long) ({ frames := 0, cells := 0, slots := 0, locals := 0 } : Room) #[(.ref x0)] h0 (fun v h L => v = some (.long (own_low lo)) ∧ h = h0 ∧ L = []) := by
  refine own_intro (plainFor_of_name own_pn0) ?_
  intro p e s m below meth c s₁ hx hby hml hown hnm hZ hret hlk X0 e0
  refine own_cast (own_mt5_ef m x0) ?_
  refine own_via (T' := s₁) (g' := (mkF m 1 #[.val (.ref x0)] [(.ref x0)])) (fun t k => XS.aloadN X0.here hx rfl (hb hby own_d5_0) rfl rfl k) ?_
  obtain ⟨T1, X1, e1, st1⟩ := getF X0 hx hZ hown (host := "") (Or.inl (hw _ (List.mem_of_getElem? (i := 12) rfl))) Via.refl e0 F_lowest (g := (mkF m 1 #[.val (.ref x0)] [(.ref x0)])) rfl rfl (hb hby own_d5_1)
  refine own_via (T' := T1) (g' := (mkF m 4 #[.val (.ref x0)] [(.long lo)])) st1 ?_
  refine own_retJ X1 hx hlk hret (hb hby own_d5_4) (by decide) (by decide) ?_
  exact ⟨by rw [own_low] <;> rfl, e1, rfl⟩
theorem own_d4_0 : decode prog_24_method_5_code 0 = .ok (.aload_n 0, 1) := by decide +kernel
theorem own_d4_1 : decode prog_24_method_5_code 1 = .ok (.getfield 13, 3) := by decide +kernel
theorem own_d4_4 : decode prog_24_method_5_code 4 = .ok (.lreturn, 1) := by decide +kernel
def own_high (hi : Int64) : Int64 := hi
theorem own_mt4_ef (m : MethodId) (x0 : Addr) : entryFrame m #[(.ref x0)] 1 = mkF m 0 #[.val (.ref x0)] [] := by first | rfl | (simp [entryFrame, mkF, argsToLocals, Value.category]; done)
set_option maxRecDepth 65536 in
set_option maxHeartbeats 40000000 in
theorem own_mt4 (l : Launch) (Z : State) (a0 : Array Value) (hw : ∀ d ∈ tables_1, d.before a0 Z = true) (x0 : Addr) (hi : Int64) (h0 : Heap) (F_highest : Fld Z h0 x0 "com/example/surrogate/surrogate/KeyRange" "highest" "J" (.long hi)) :
    own_Met l Z (⟨"com/example/surrogate/surrogate/KeyRange", "highest", "()J"⟩ : MethodName) prog_24_method_5_code 1 (some .long) ({ frames := 0, cells := 0, slots := 0, locals := 0 } : Room) #[(.ref x0)] h0 (fun v h L => v = some (.long (own_high hi)) ∧ h = h0 ∧ L = []) := by
  refine own_intro (plainFor_of_name own_pn0) ?_
  intro p e s m below meth c s₁ hx hby hml hown hnm hZ hret hlk X0 e0
  refine own_cast (own_mt4_ef m x0) ?_
  refine own_via (T' := s₁) (g' := (mkF m 1 #[.val (.ref x0)] [(.ref x0)])) (fun t k => XS.aloadN X0.here hx rfl (hb hby own_d4_0) rfl rfl k) ?_
  obtain ⟨T1, X1, e1, st1⟩ := getF X0 hx hZ hown (host := "") (Or.inl (hw _ (List.mem_of_getElem? (i := 14) rfl))) Via.refl e0 F_highest (g := (mkF m 1 #[.val (.ref x0)] [(.ref x0)])) rfl rfl (hb hby own_d4_1)
  refine own_via (T' := T1) (g' := (mkF m 4 #[.val (.ref x0)] [(.long hi)])) st1 ?_
  refine own_retJ X1 hx hlk hret (hb hby own_d4_4) (by decide) (by decide) ?_
  exact ⟨by rw [own_high] <;> rfl, e1, rfl⟩
theorem own_d6_0 : decode jdk_29_method_69_code 0 = .ok (.iload_n 0, 1) := by decide +kernel
theorem own_d6_1 : decode jdk_29_method_69_code 1 = .ok (.iload_n 1, 1) := by decide +kernel
theorem own_d6_2 : decode jdk_29_method_69_code 2 = .ok (.if_icmp .gt 7, 3) := by decide +kernel
theorem own_d6_5 : decode jdk_29_method_69_code 5 = .ok (.iload_n 0, 1) := by decide +kernel
theorem own_d6_6 : decode jdk_29_method_69_code 6 = .ok (.goto 4, 3) := by decide +kernel
theorem own_d6_9 : decode jdk_29_method_69_code 9 = .ok (.iload_n 1, 1) := by decide +kernel
theorem own_d6_10 : decode jdk_29_method_69_code 10 = .ok (.ireturn, 1) := by decide +kernel
def own_min (x0 : Int32) (x1 : Int32) : Int32 := (if x1 < x0 then x1 else x0)
theorem own_mt6_ef (m : MethodId) (x0 : Int32) (x1 : Int32) : entryFrame m #[(.int x0), (.int x1)] 2 = mkF m 0 #[.val (.int x0), .val (.int x1)] [] := by first | rfl | (simp [entryFrame, mkF, argsToLocals, Value.category]; done)
set_option maxRecDepth 65536 in
set_option maxHeartbeats 40000000 in
theorem own_mt6 (l : Launch) (Z : State) (a0 : Array Value) (hw : ∀ d ∈ tables_1, d.before a0 Z = true) (x0 : Int32) (x1 : Int32) (h0 : Heap) :
    own_Met l Z (⟨"java/lang/Math", "min", "(II)I"⟩ : MethodName) jdk_29_method_69_code 2 (some .int) ({ frames := 0, cells := 0, slots := 0, locals := 0 } : Room) #[(.int x0), (.int x1)] h0 (fun v h L => v = some (.int (own_min x0 x1)) ∧ h = h0 ∧ L = []) := by
  refine own_intro (Jvm.Free.JP.mathPlain rfl (by decide +kernel)) ?_
  intro p e s m below meth c s₁ hx hby hml hown hnm hZ hret hlk X0 e0
  refine own_cast (own_mt6_ef m x0 x1) ?_
  refine own_via (T' := s₁) (g' := (mkF m 2 #[.val (.int x0), .val (.int x1)] [(.int x1), (.int x0)])) (fun t k => XS.iloadN X0.here hx rfl (hb hby own_d6_0) rfl (XS.iloadN X0.here hx rfl (hb hby own_d6_1) rfl k)) ?_
  by_cases hc1 : x1 < x0
  · refine own_via (T' := s₁) (g' := (mkF m 10 #[.val (.int x0), .val (.int x1)] [(.int x1)])) (fun t k => XS.icmpYes X0.here hx rfl (pc0 := 2) (pc' := 9) rfl (hb hby own_d6_2) rfl (tlt hc1).2.2.1 (by decide) (by decide) (XS.iloadN X0.here hx rfl (hb hby own_d6_9) rfl k)) ?_
    refine own_retI X0 hx hlk hret (hb hby own_d6_10) (by decide) (by decide) ?_
    exact ⟨by rw [own_min, if_pos hc1] <;> rfl, e0, rfl⟩
  · refine own_via (T' := s₁) (g' := (mkF m 10 #[.val (.int x0), .val (.int x1)] [(.int x0)])) (fun t k => XS.icmpNo X0.here hx rfl (hb hby own_d6_2) rfl (flt hc1).2.2.1 (XS.iloadN X0.here hx rfl (hb hby own_d6_5) rfl (XS.goto X0.here hx rfl (pc0 := 6) (pc' := 10) rfl (hb hby own_d6_6) (by decide) (by decide) k))) ?_
    refine own_retI X0 hx hlk hret (hb hby own_d6_10) (by decide) (by decide) ?_
    exact ⟨by rw [own_min, if_neg hc1] <;> rfl, e0, rfl⟩
theorem own_d1_0 : decode prog_24_method_2_code 0 = .ok (.iload_n 1, 1) := by decide +kernel
theorem own_d1_1 : decode prog_24_method_2_code 1 = .ok (.ifCond .eq 9, 3) := by decide +kernel
theorem own_d1_4 : decode prog_24_method_2_code 4 = .ok (.iload_n 0, 1) := by decide +kernel
theorem own_d1_5 : decode prog_24_method_2_code 5 = .ok (.iconst 1, 1) := by decide +kernel
theorem own_d1_6 : decode prog_24_method_2_code 6 = .ok (.isub, 1) := by decide +kernel
theorem own_d1_7 : decode prog_24_method_2_code 7 = .ok (.goto 4, 3) := by decide +kernel
theorem own_d1_10 : decode prog_24_method_2_code 10 = .ok (.iload_n 0, 1) := by decide +kernel
theorem own_d1_11 : decode prog_24_method_2_code 11 = .ok (.istore_n 2, 1) := by decide +kernel
theorem own_d1_12 : decode prog_24_method_2_code 12 = .ok (.iload_n 2, 1) := by decide +kernel
theorem own_d1_13 : decode prog_24_method_2_code 13 = .ok (.bipush 63, 2) := by decide +kernel
theorem own_d1_15 : decode prog_24_method_2_code 15 = .ok (.if_icmp .lt 9, 3) := by decide +kernel
theorem own_d1_18 : decode prog_24_method_2_code 18 = .ok (.ldc2_w 18, 3) := by decide +kernel
theorem own_d1_21 : decode prog_24_method_2_code 21 = .ok (.goto 8, 3) := by decide +kernel
theorem own_d1_24 : decode prog_24_method_2_code 24 = .ok (.lconst 1, 1) := by decide +kernel
theorem own_d1_25 : decode prog_24_method_2_code 25 = .ok (.iload_n 2, 1) := by decide +kernel
theorem own_d1_26 : decode prog_24_method_2_code 26 = .ok (.lshl, 1) := by decide +kernel
theorem own_d1_27 : decode prog_24_method_2_code 27 = .ok (.lconst 1, 1) := by decide +kernel
theorem own_d1_28 : decode prog_24_method_2_code 28 = .ok (.lsub, 1) := by decide +kernel
theorem own_d1_29 : decode prog_24_method_2_code 29 = .ok (.lstore_n 3, 1) := by decide +kernel
theorem own_d1_30 : decode prog_24_method_2_code 30 = .ok (.new 8, 3) := by decide +kernel
theorem own_d1_33 : decode prog_24_method_2_code 33 = .ok (.dup, 1) := by decide +kernel
theorem own_d1_34 : decode prog_24_method_2_code 34 = .ok (.iload_n 1, 1) := by decide +kernel
theorem own_d1_35 : decode prog_24_method_2_code 35 = .ok (.ifCond .eq 10, 3) := by decide +kernel
theorem own_d1_38 : decode prog_24_method_2_code 38 = .ok (.lload_n 3, 1) := by decide +kernel
theorem own_d1_39 : decode prog_24_method_2_code 39 = .ok (.lneg, 1) := by decide +kernel
theorem own_d1_40 : decode prog_24_method_2_code 40 = .ok (.lconst 1, 1) := by decide +kernel
theorem own_d1_41 : decode prog_24_method_2_code 41 = .ok (.lsub, 1) := by decide +kernel
theorem own_d1_42 : decode prog_24_method_2_code 42 = .ok (.goto 4, 3) := by decide +kernel
theorem own_d1_45 : decode prog_24_method_2_code 45 = .ok (.lconst 0, 1) := by decide +kernel
theorem own_d1_46 : decode prog_24_method_2_code 46 = .ok (.lload_n 3, 1) := by decide +kernel
theorem own_d1_47 : decode prog_24_method_2_code 47 = .ok (.invokespecial 20, 3) := by decide +kernel
theorem own_d1_50 : decode prog_24_method_2_code 50 = .ok (.areturn, 1) := by decide +kernel
theorem own_pd0 : parseMethodDescriptor "(JJ)V" = some ⟨[.long, .long], none⟩ := by decide +kernel
def own_bits_r_lowest (x0 : Int32) (x1 : Int32) : Int64 := (if x1 = (0 : Int32) then (if x0 < (63 : Int32) then (0 : Int64) else (0 : Int64)) else (if (x0 - (1 : Int32)) < (63 : Int32) then ((-(((1 : Int64) <<< ((x0 - (1 : Int32)) &&& 0x3f).toInt64) - (1 : Int64))) - (1 : Int64)) else ((-9223372036854775807 : Int64) - (1 : Int64))))
def own_bits_r_highest (x0 : Int32) (x1 : Int32) : Int64 := (if x1 = (0 : Int32) then (if x0 < (63 : Int32) then (((1 : Int64) <<< (x0 &&& 0x3f).toInt64) - (1 : Int64)) else (9223372036854775807 : Int64)) else (if (x0 - (1 : Int32)) < (63 : Int32) then (((1 : Int64) <<< ((x0 - (1 : Int32)) &&& 0x3f).toInt64) - (1 : Int64)) else (9223372036854775807 : Int64)))
theorem own_mt1_ef (m : MethodId) (x0 : Int32) (x1 : Int32) : entryFrame m #[(.int x0), (.int x1)] 5 = mkF m 0 #[.val (.int x0), .val (.int x1), .unset, .unset, .unset] [] := by first | rfl | (simp [entryFrame, mkF, argsToLocals, Value.category]; done)
set_option maxRecDepth 65536 in
set_option maxHeartbeats 40000000 in
theorem own_mt1 (l : Launch) (Z : State) (a0 : Array Value) (hw : ∀ d ∈ tables_1, d.before a0 Z = true) (x0 : Int32) (x1 : Int32) (h0 : Heap) (n0 : Nat) (Z0 : n0 ≤ h0.size) :
    own_Met l Z (⟨"com/example/surrogate/surrogate/KeyRange", "ofBits", "(IZ)Lcom/example/surrogate/surrogate/KeyRange;"⟩ : MethodName) prog_24_method_2_code 5 (some (.object "com/example/surrogate/surrogate/KeyRange")) ({ frames := 2, cells := 1, slots := 2, locals := 29 } : Room) #[(.int x0), (.int x1)] h0 (fun v h L => ∃ r : Addr, v = some (.ref r) ∧ h0.size ≤ r ∧ Fr n0 L ∧ Keep h0 h [] ∧ Exa Z h r "com/example/surrogate/surrogate/KeyRange" ∧ Fld Z h r "com/example/surrogate/surrogate/KeyRange" "lowest" "J" (.long (own_bits_r_lowest x0 x1)) ∧ Fld Z h r "com/example/surrogate/surrogate/KeyRange" "highest" "J" (.long (own_bits_r_highest x0 x1))) := by
  refine own_intro (plainFor_of_name own_pn0) ?_
  intro p e s m below meth c s₁ hx hby hml hown hnm hZ hret hlk X0 e0
  refine own_cast (own_mt1_ef m x0 x1) ?_
  have N0 := Fr.nil n0
  have K0 : Keep h0 h0 [] := Keep.refl _ _
  refine own_via (T' := s₁) (g' := (mkF m 1 #[.val (.int x0), .val (.int x1), .unset, .unset, .unset] [(.int x1)])) (fun t k => XS.iloadN X0.here hx rfl (hb hby own_d1_0) rfl k) ?_
  by_cases hc1 : x1 = (0 : Int32)
  · refine own_via (T' := s₁) (g' := (mkF m 15 #[.val (.int x0), .val (.int x1), .val (.int x0), .unset, .unset] [(.int (63 : Int32)), (.int x0)])) (fun t k => XS.ifYes X0.here hx rfl (pc0 := 1) (pc' := 10) rfl (hb hby own_d1_1) rfl ((if0 _ _).trans (teq hc1).1) (by decide) (by decide) (XS.iloadN X0.here hx rfl (hb hby own_d1_10) rfl (XS.istoreN X0.here hx rfl (hb hby own_d1_11) rfl (l' := #[.val (.int x0), .val (.int x1), .val (.int x0), .unset, .unset]) rfl (XS.iloadN X0.here hx rfl (hb hby own_d1_12) rfl (XS.bipush X0.here hx rfl (hb hby own_d1_13) k))))) ?_
    by_cases hc2 : x0 < (63 : Int32)
    · refine own_via (T' := s₁) (g' := (mkF m 30 #[.val (.int x0), .val (.int x1), .val (.int x0), .val (.long (((1 : Int64) <<< (x0 &&& 0x3f).toInt64) - (1 : Int64))), .second] [])) (fun t k => XS.icmpYes X0.here hx rfl (pc0 := 15) (pc' := 24) rfl (hb hby own_d1_15) rfl (tlt hc2).1 (by decide) (by decide) (XS.lconst X0.here hx rfl (hb hby own_d1_24) (XS.iloadN X0.here hx rfl (hb hby own_d1_25) rfl (XS.lshl X0.here hx rfl (hb hby own_d1_26) rfl (XS.lconst X0.here hx rfl (hb hby own_d1_27) (XS.lsub X0.here hx rfl (hb hby own_d1_28) rfl (XS.lstoreN X0.here hx rfl (hb hby own_d1_29) rfl (l' := #[.val (.int x0), .val (.int x1), .val (.int x0), .val (.long (((1 : Int64) <<< (x0 &&& 0x3f).toInt64) - (1 : Int64))), .second]) rfl k))))))) ?_
      obtain ⟨T3, h3, X3, e3, E3, A3, D3, -, st3⟩ := newO X0 hx hZ hown (hw _ (List.mem_of_getElem? (i := 4) rfl)) (hw _ (List.mem_of_getElem? (i := 5) rfl)) (hw _ (List.mem_of_getElem? (i := 2) rfl)) e0 (g := (mkF m 30 #[.val (.int x0), .val (.int x1), .val (.int x0), .val (.long (((1 : Int64) <<< (x0 &&& 0x3f).toInt64) - (1 : Int64))), .second] [])) rfl (hb hby own_d1_30) (by decide) (by decide)
      obtain ⟨b3, g3⟩ : ∃ z, z = h0.size := ⟨_, rfl⟩
      rw [← g3] at A3 D3 st3
      have bd_b3 : h0.size ≤ b3 := Nat.le_of_eq g3.symm
      have ge_b3 : n0 ≤ b3 := Nat.le_trans Z0 bd_b3
      have Z3 : n0 ≤ h3.size := Nat.le_trans Z0 E3.1
      have bo_b3 : h0.size ≤ b3 := Nat.le_trans K0.1 bd_b3
      have K3 : Keep h0 h3 [] := K0.ext E3
      have Flowest_3 : Fld Z h3 b3 "com/example/surrogate/surrogate/KeyRange" "lowest" "J" (.long (0 : Int64)) := D3 (Or.inr (hw _ (List.mem_of_getElem? (i := 13) rfl))) (ty := .long) (by decide)
      have Fhighest_3 : Fld Z h3 b3 "com/example/surrogate/surrogate/KeyRange" "highest" "J" (.long (0 : Int64)) := D3 (Or.inr (hw _ (List.mem_of_getElem? (i := 15) rfl))) (ty := .long) (by decide)
      refine own_via (T' := T3) (g' := (mkF m 33 #[.val (.int x0), .val (.int x1), .val (.int x0), .val (.long (((1 : Int64) <<< (x0 &&& 0x3f).toInt64) - (1 : Int64))), .second] [(.ref b3)])) st3 ?_
      refine own_via (T' := T3) (g' := (mkF m 35 #[.val (.int x0), .val (.int x1), .val (.int x0), .val (.long (((1 : Int64) <<< (x0 &&& 0x3f).toInt64) - (1 : Int64))), .second] [(.int x1), (.ref b3), (.ref b3)])) (fun t k => XS.dup X3.here hx rfl (hb hby own_d1_33) rfl rfl (XS.iloadN X3.here hx rfl (hb hby own_d1_34) rfl k)) ?_
      refine own_via (T' := T3) (g' := (mkF m 47 #[.val (.int x0), .val (.int x1), .val (.int x0), .val (.long (((1 : Int64) <<< (x0 &&& 0x3f).toInt64) - (1 : Int64))), .second] [(.long (((1 : Int64) <<< (x0 &&& 0x3f).toInt64) - (1 : Int64))), (.long (0 : Int64)), (.ref b3), (.ref b3)])) (fun t k => XS.ifYes X3.here hx rfl (pc0 := 35) (pc' := 45) rfl (hb hby own_d1_35) rfl ((if0 _ _).trans (teq hc1).1) (by decide) (by decide) (XS.lconst X3.here hx rfl (hb hby own_d1_45) (XS.lloadN X3.here hx rfl (hb hby own_d1_46) rfl k))) ?_
      obtain ⟨v4, T4, L4, X4, hQ4, st4⟩ := own_callSp (y := (⟨"com/example/surrogate/surrogate/KeyRange", "<init>", "(JJ)V"⟩ : MethodName)) (a := b3) (argsL := [(.long (0 : Int64)), (.long (((1 : Int64) <<< (x0 &&& 0x3f).toInt64) - (1 : Int64)))]) (rest := [(.ref b3)]) X3 hx hZ hown rfl (hw _ (List.mem_of_getElem? (i := 6) rfl)) (hw _ (List.mem_of_getElem? (i := 7) rfl)) (hw _ (List.mem_of_getElem? (i := 2) rfl)) (hw _ (List.mem_of_getElem? (i := 8) rfl)) (by decide) (own_mt2 l Z a0 hw b3 (0 : Int64) (((1 : Int64) <<< (x0 &&& 0x3f).toInt64) - (1 : Int64)) h3 n0 Z3 ge_b3 A3 Flowest_3 Fhighest_3) e3 (W := 1) (by decide) (by decide) (g := (mkF m 47 #[.val (.int x0), .val (.int x1), .val (.int x0), .val (.long (((1 : Int64) <<< (x0 &&& 0x3f).toInt64) - (1 : Int64))), .second] [(.long (((1 : Int64) <<< (x0 &&& 0x3f).toInt64) - (1 : Int64))), (.long (0 : Int64)), (.ref b3), (.ref b3)])) rfl (by rw [hml]; rfl) (lenOf own_pd0 rfl) rfl (by show 2 * 0 + _ ≤ _; exact Nat.le_of_eq rfl) (hb hby own_d1_47) (by decide) (by decide)
      obtain ⟨rfl, Nq4, K4q, G4_0, G4_1, G4_2⟩ := hQ4
      have N4 := Fr.app N0 Nq4
      have Z4 : n0 ≤ T4.heap.size := Nat.le_trans Z3 K4q.1
      have K4 : Keep h0 T4.heap [] := K3.trans K4q (allS (Or.inr bo_b3) all0)
      have A3_at5 := A3.keep K4q
      refine own_via (T' := T4) (g' := (mkF m 50 #[.val (.int x0), .val (.int x1), .val (.int x0), .val (.long (((1 : Int64) <<< (x0 &&& 0x3f).toInt64) - (1 : Int64))), .second] [(.ref b3)])) st4 ?_
      refine own_retA X4 hx hlk hret rfl rfl (hb hby own_d1_50) (by decide) (by decide) ?_
      exact ⟨b3, rfl, bo_b3, N4, K4, G4_0, (by rw [own_bits_r_lowest, if_pos hc1, if_pos hc2]; exact G4_1), (by rw [own_bits_r_highest, if_pos hc1, if_pos hc2]; exact G4_2)⟩
    · refine own_via (T' := s₁) (g' := (mkF m 18 #[.val (.int x0), .val (.int x1), .val (.int x0), .unset, .unset] [])) (fun t k => XS.icmpNo X0.here hx rfl (hb hby own_d1_15) rfl (flt hc2).1 k) ?_
      refine own_via (T' := s₁) (g' := (mkF m 21 #[.val (.int x0), .val (.int x1), .val (.int x0), .unset, .unset] [(.long (9223372036854775807 : Int64))])) (X0.ldc2Long hx hown (mvT hZ (hw _ (List.mem_of_getElem? (i := 31) rfl))) (g := (mkF m 18 #[.val (.int x0), .val (.int x1), .val (.int x0), .unset, .unset] [])) rfl (hb hby own_d1_18)) ?_
      refine own_via (T' := s₁) (g' := (mkF m 30 #[.val (.int x0), .val (.int x1), .val (.int x0), .val (.long (9223372036854775807 : Int64)), .second] [])) (fun t k => XS.goto X0.here hx rfl (pc0 := 21) (pc' := 29) rfl (hb hby own_d1_21) (by decide) (by decide) (XS.lstoreN X0.here hx rfl (hb hby own_d1_29) rfl (l' := #[.val (.int x0), .val (.int x1), .val (.int x0), .val (.long (9223372036854775807 : Int64)), .second]) rfl k)) ?_
      obtain ⟨T6, h6, X6, e6, E6, A6, D6, -, st6⟩ := newO X0 hx hZ hown (hw _ (List.mem_of_getElem? (i := 4) rfl)) (hw _ (List.mem_of_getElem? (i := 5) rfl)) (hw _ (List.mem_of_getElem? (i := 2) rfl)) e0 (g := (mkF m 30 #[.val (.int x0), .val (.int x1), .val (.int x0), .val (.long (9223372036854775807 : Int64)), .second] [])) rfl (hb hby own_d1_30) (by decide) (by decide)
      obtain ⟨b6, g6⟩ : ∃ z, z = h0.size := ⟨_, rfl⟩
      rw [← g6] at A6 D6 st6
      have bd_b6 : h0.size ≤ b6 := Nat.le_of_eq g6.symm
      have ge_b6 : n0 ≤ b6 := Nat.le_trans Z0 bd_b6
      have Z6 : n0 ≤ h6.size := Nat.le_trans Z0 E6.1
      have bo_b6 : h0.size ≤ b6 := Nat.le_trans K0.1 bd_b6
      have K6 : Keep h0 h6 [] := K0.ext E6
      have Flowest_6 : Fld Z h6 b6 "com/example/surrogate/surrogate/KeyRange" "lowest" "J" (.long (0 : Int64)) := D6 (Or.inr (hw _ (List.mem_of_getElem? (i := 13) rfl))) (ty := .long) (by decide)
      have Fhighest_6 : Fld Z h6 b6 "com/example/surrogate/surrogate/KeyRange" "highest" "J" (.long (0 : Int64)) := D6 (Or.inr (hw _ (List.mem_of_getElem? (i := 15) rfl))) (ty := .long) (by decide)
      refine own_via (T' := T6) (g' := (mkF m 33 #[.val (.int x0), .val (.int x1), .val (.int x0), .val (.long (9223372036854775807 : Int64)), .second] [(.ref b6)])) st6 ?_
      refine own_via (T' := T6) (g' := (mkF m 35 #[.val (.int x0), .val (.int x1), .val (.int x0), .val (.long (9223372036854775807 : Int64)), .second] [(.int x1), (.ref b6), (.ref b6)])) (fun t k => XS.dup X6.here hx rfl (hb hby own_d1_33) rfl rfl (XS.iloadN X6.here hx rfl (hb hby own_d1_34) rfl k)) ?_
      refine own_via (T' := T6) (g' := (mkF m 47 #[.val (.int x0), .val (.int x1), .val (.int x0), .val (.long (9223372036854775807 : Int64)), .second] [(.long (9223372036854775807 : Int64)), (.long (0 : Int64)), (.ref b6), (.ref b6)])) (fun t k => XS.ifYes X6.here hx rfl (pc0 := 35) (pc' := 45) rfl (hb hby own_d1_35) rfl ((if0 _ _).trans (teq hc1).1) (by decide) (by decide) (XS.lconst X6.here hx rfl (hb hby own_d1_45) (XS.lloadN X6.here hx rfl (hb hby own_d1_46) rfl k))) ?_
      obtain ⟨v7, T7, L7, X7, hQ7, st7⟩ := own_callSp (y := (⟨"com/example/surrogate/surrogate/KeyRange", "<init>", "(JJ)V"⟩ : MethodName)) (a := b6) (argsL := [(.long (0 : Int64)), (.long (9223372036854775807 : Int64))]) (rest := [(.ref b6)]) X6 hx hZ hown rfl (hw _ (List.mem_of_getElem? (i := 6) rfl)) (hw _ (List.mem_of_getElem? (i := 7) rfl)) (hw _ (List.mem_of_getElem? (i := 2) rfl)) (hw _ (List.mem_of_getElem? (i := 8) rfl)) (by decide) (own_mt2 l Z a0 hw b6 (0 : Int64) (9223372036854775807 : Int64) h6 n0 Z6 ge_b6 A6 Flowest_6 Fhighest_6) e6 (W := 1) (by decide) (by decide) (g := (mkF m 47 #[.val (.int x0), .val (.int x1), .val (.int x0), .val (.long (9223372036854775807 : Int64)), .second] [(.long (9223372036854775807 : Int64)), (.long (0 : Int64)), (.ref b6), (.ref b6)])) rfl (by rw [hml]; rfl) (lenOf own_pd0 rfl) rfl (by show 2 * 0 + _ ≤ _; exact Nat.le_of_eq rfl) (hb hby own_d1_47) (by decide) (by decide)
      obtain ⟨rfl, Nq7, K7q, G7_0, G7_1, G7_2⟩ := hQ7
      have N7 := Fr.app N0 Nq7
      have Z7 : n0 ≤ T7.heap.size := Nat.le_trans Z6 K7q.1
      have K7 : Keep h0 T7.heap [] := K6.trans K7q (allS (Or.inr bo_b6) all0)
      have A6_at8 := A6.keep K7q
      refine own_via (T' := T7) (g' := (mkF m 50 #[.val (.int x0), .val (.int x1), .val (.int x0), .val (.long (9223372036854775807 : Int64)), .second] [(.ref b6)])) st7 ?_
      refine own_retA X7 hx hlk hret rfl rfl (hb hby own_d1_50) (by decide) (by decide) ?_
      exact ⟨b6, rfl, bo_b6, N7, K7, G7_0, (by rw [own_bits_r_lowest, if_pos hc1, if_neg hc2]; exact G7_1), (by rw [own_bits_r_highest, if_pos hc1, if_neg hc2]; exact G7_2)⟩
  · refine own_via (T' := s₁) (g' := (mkF m 15 #[.val (.int x0), .val (.int x1), .val (.int (x0 - (1 : Int32))), .unset, .unset] [(.int (63 : Int32)), (.int (x0 - (1 : Int32)))])) (fun t k => XS.ifNo X0.here hx rfl (hb hby own_d1_1) rfl ((if0 _ _).trans (feq hc1).1) (XS.iloadN X0.here hx rfl (hb hby own_d1_4) rfl (XS.iconst X0.here hx rfl (hb hby own_d1_5) (XS.isub X0.here hx rfl (hb hby own_d1_6) rfl (XS.goto X0.here hx rfl (pc0 := 7) (pc' := 11) rfl (hb hby own_d1_7) (by decide) (by decide) (XS.istoreN X0.here hx rfl (hb hby own_d1_11) rfl (l' := #[.val (.int x0), .val (.int x1), .val (.int (x0 - (1 : Int32))), .unset, .unset]) rfl (XS.iloadN X0.here hx rfl (hb hby own_d1_12) rfl (XS.bipush X0.here hx rfl (hb hby own_d1_13) k)))))))) ?_
    by_cases hc9 : (x0 - (1 : Int32)) < (63 : Int32)
    · refine own_via (T' := s₁) (g' := (mkF m 30 #[.val (.int x0), .val (.int x1), .val (.int (x0 - (1 : Int32))), .val (.long (((1 : Int64) <<< ((x0 - (1 : Int32)) &&& 0x3f).toInt64) - (1 : Int64))), .second] [])) (fun t k => XS.icmpYes X0.here hx rfl (pc0 := 15) (pc' := 24) rfl (hb hby own_d1_15) rfl (tlt hc9).1 (by decide) (by decide) (XS.lconst X0.here hx rfl (hb hby own_d1_24) (XS.iloadN X0.here hx rfl (hb hby own_d1_25) rfl (XS.lshl X0.here hx rfl (hb hby own_d1_26) rfl (XS.lconst X0.here hx rfl (hb hby own_d1_27) (XS.lsub X0.here hx rfl (hb hby own_d1_28) rfl (XS.lstoreN X0.here hx rfl (hb hby own_d1_29) rfl (l' := #[.val (.int x0), .val (.int x1), .val (.int (x0 - (1 : Int32))), .val (.long (((1 : Int64) <<< ((x0 - (1 : Int32)) &&& 0x3f).toInt64) - (1 : Int64))), .second]) rfl k))))))) ?_
      obtain ⟨T10, h10, X10, e10, E10, A10, D10, -, st10⟩ := newO X0 hx hZ hown (hw _ (List.mem_of_getElem? (i := 4) rfl)) (hw _ (List.mem_of_getElem? (i := 5) rfl)) (hw _ (List.mem_of_getElem? (i := 2) rfl)) e0 (g := (mkF m 30 #[.val (.int x0), .val (.int x1), .val (.int (x0 - (1 : Int32))), .val (.long (((1 : Int64) <<< ((x0 - (1 : Int32)) &&& 0x3f).toInt64) - (1 : Int64))), .second] [])) rfl (hb hby own_d1_30) (by decide) (by decide)
      obtain ⟨b10, g10⟩ : ∃ z, z = h0.size := ⟨_, rfl⟩
      rw [← g10] at A10 D10 st10
      have bd_b10 : h0.size ≤ b10 := Nat.le_of_eq g10.symm
      have ge_b10 : n0 ≤ b10 := Nat.le_trans Z0 bd_b10
      have Z10 : n0 ≤ h10.size := Nat.le_trans Z0 E10.1
      have bo_b10 : h0.size ≤ b10 := Nat.le_trans K0.1 bd_b10
      have K10 : Keep h0 h10 [] := K0.ext E10
      have Flowest_10 : Fld Z h10 b10 "com/example/surrogate/surrogate/KeyRange" "lowest" "J" (.long (0 : Int64)) := D10 (Or.inr (hw _ (List.mem_of_getElem? (i := 13) rfl))) (ty := .long) (by decide)
      have Fhighest_10 : Fld Z h10 b10 "com/example/surrogate/surrogate/KeyRange" "highest" "J" (.long (0 : Int64)) := D10 (Or.inr (hw _ (List.mem_of_getElem? (i := 15) rfl))) (ty := .long) (by decide)
      refine own_via (T' := T10) (g' := (mkF m 33 #[.val (.int x0), .val (.int x1), .val (.int (x0 - (1 : Int32))), .val (.long (((1 : Int64) <<< ((x0 - (1 : Int32)) &&& 0x3f).toInt64) - (1 : Int64))), .second] [(.ref b10)])) st10 ?_
      refine own_via (T' := T10) (g' := (mkF m 35 #[.val (.int x0), .val (.int x1), .val (.int (x0 - (1 : Int32))), .val (.long (((1 : Int64) <<< ((x0 - (1 : Int32)) &&& 0x3f).toInt64) - (1 : Int64))), .second] [(.int x1), (.ref b10), (.ref b10)])) (fun t k => XS.dup X10.here hx rfl (hb hby own_d1_33) rfl rfl (XS.iloadN X10.here hx rfl (hb hby own_d1_34) rfl k)) ?_
      refine own_via (T' := T10) (g' := (mkF m 47 #[.val (.int x0), .val (.int x1), .val (.int (x0 - (1 : Int32))), .val (.long (((1 : Int64) <<< ((x0 - (1 : Int32)) &&& 0x3f).toInt64) - (1 : Int64))), .second] [(.long (((1 : Int64) <<< ((x0 - (1 : Int32)) &&& 0x3f).toInt64) - (1 : Int64))), (.long ((-(((1 : Int64) <<< ((x0 - (1 : Int32)) &&& 0x3f).toInt64) - (1 : Int64))) - (1 : Int64))), (.ref b10), (.ref b10)])) (fun t k => XS.ifNo X10.here hx rfl (hb hby own_d1_35) rfl ((if0 _ _).trans (feq hc1).1) (XS.lloadN X10.here hx rfl (hb hby own_d1_38) rfl (XS.lneg X10.here hx rfl (hb hby own_d1_39) rfl (XS.lconst X10.here hx rfl (hb hby own_d1_40) (XS.lsub X10.here hx rfl (hb hby own_d1_41) rfl (XS.goto X10.here hx rfl (pc0 := 42) (pc' := 46) rfl (hb hby own_d1_42) (by decide) (by decide) (XS.lloadN X10.here hx rfl (hb hby own_d1_46) rfl k))))))) ?_
      obtain ⟨v11, T11, L11, X11, hQ11, st11⟩ := own_callSp (y := (⟨"com/example/surrogate/surrogate/KeyRange", "<init>", "(JJ)V"⟩ : MethodName)) (a := b10) (argsL := [(.long ((-(((1 : Int64) <<< ((x0 - (1 : Int32)) &&& 0x3f).toInt64) - (1 : Int64))) - (1 : Int64))), (.long (((1 : Int64) <<< ((x0 - (1 : Int32)) &&& 0x3f).toInt64) - (1 : Int64)))]) (rest := [(.ref b10)]) X10 hx hZ hown rfl (hw _ (List.mem_of_getElem? (i := 6) rfl)) (hw _ (List.mem_of_getElem? (i := 7) rfl)) (hw _ (List.mem_of_getElem? (i := 2) rfl)) (hw _ (List.mem_of_getElem? (i := 8) rfl)) (by decide) (own_mt2 l Z a0 hw b10 ((-(((1 : Int64) <<< ((x0 - (1 : Int32)) &&& 0x3f).toInt64) - (1 : Int64))) - (1 : Int64)) (((1 : Int64) <<< ((x0 - (1 : Int32)) &&& 0x3f).toInt64) - (1 : Int64)) h10 n0 Z10 ge_b10 A10 Flowest_10 Fhighest_10) e10 (W := 1) (by decide) (by decide) (g := (mkF m 47 #[.val (.int x0), .val (.int x1), .val (.int (x0 - (1 : Int32))), .val (.long (((1 : Int64) <<< ((x0 - (1 : Int32)) &&& 0x3f).toInt64) - (1 : Int64))), .second] [(.long (((1 : Int64) <<< ((x0 - (1 : Int32)) &&& 0x3f).toInt64) - (1 : Int64))), (.long ((-(((1 : Int64) <<< ((x0 - (1 : Int32)) &&& 0x3f).toInt64) - (1 : Int64))) - (1 : Int64))), (.ref b10), (.ref b10)])) rfl (by rw [hml]; rfl) (lenOf own_pd0 rfl) rfl (by show 2 * 0 + _ ≤ _; exact Nat.le_of_eq rfl) (hb hby own_d1_47) (by decide) (by decide)
      obtain ⟨rfl, Nq11, K11q, G11_0, G11_1, G11_2⟩ := hQ11
      have N11 := Fr.app N0 Nq11
      have Z11 : n0 ≤ T11.heap.size := Nat.le_trans Z10 K11q.1
      have K11 : Keep h0 T11.heap [] := K10.trans K11q (allS (Or.inr bo_b10) all0)
      have A10_at12 := A10.keep K11q
      refine own_via (T' := T11) (g' := (mkF m 50 #[.val (.int x0), .val (.int x1), .val (.int (x0 - (1 : Int32))), .val (.long (((1 : Int64) <<< ((x0 - (1 : Int32)) &&& 0x3f).toInt64) - (1 : Int64))), .second] [(.ref b10)])) st11 ?_
      refine own_retA X11 hx hlk hret rfl rfl (hb hby own_d1_50) (by decide) (by decide) ?_
      exact ⟨b10, rfl, bo_b10, N11, K11, G11_0, (by rw [own_bits_r_lowest, if_neg hc1, if_pos hc9]; exact G11_1), (by rw [own_bits_r_highest, if_neg hc1, if_pos hc9]; exact G11_2)⟩
    · refine own_via (T' := s₁) (g' := (mkF m 18 #[.val (.int x0), .val (.int x1), .val (.int (x0 - (1 : Int32))), .unset, .unset] [])) (fun t k => XS.icmpNo X0.here hx rfl (hb hby own_d1_15) rfl (flt hc9).1 k) ?_
      refine own_via (T' := s₁) (g' := (mkF m 21 #[.val (.int x0), .val (.int x1), .val (.int (x0 - (1 : Int32))), .unset, .unset] [(.long (9223372036854775807 : Int64))])) (X0.ldc2Long hx hown (mvT hZ (hw _ (List.mem_of_getElem? (i := 31) rfl))) (g := (mkF m 18 #[.val (.int x0), .val (.int x1), .val (.int (x0 - (1 : Int32))), .unset, .unset] [])) rfl (hb hby own_d1_18)) ?_
      refine own_via (T' := s₁) (g' := (mkF m 30 #[.val (.int x0), .val (.int x1), .val (.int (x0 - (1 : Int32))), .val (.long (9223372036854775807 : Int64)), .second] [])) (fun t k => XS.goto X0.here hx rfl (pc0 := 21) (pc' := 29) rfl (hb hby own_d1_21) (by decide) (by decide) (XS.lstoreN X0.here hx rfl (hb hby own_d1_29) rfl (l' := #[.val (.int x0), .val (.int x1), .val (.int (x0 - (1 : Int32))), .val (.long (9223372036854775807 : Int64)), .second]) rfl k)) ?_
      obtain ⟨T13, h13, X13, e13, E13, A13, D13, -, st13⟩ := newO X0 hx hZ hown (hw _ (List.mem_of_getElem? (i := 4) rfl)) (hw _ (List.mem_of_getElem? (i := 5) rfl)) (hw _ (List.mem_of_getElem? (i := 2) rfl)) e0 (g := (mkF m 30 #[.val (.int x0), .val (.int x1), .val (.int (x0 - (1 : Int32))), .val (.long (9223372036854775807 : Int64)), .second] [])) rfl (hb hby own_d1_30) (by decide) (by decide)
      obtain ⟨b13, g13⟩ : ∃ z, z = h0.size := ⟨_, rfl⟩
      rw [← g13] at A13 D13 st13
      have bd_b13 : h0.size ≤ b13 := Nat.le_of_eq g13.symm
      have ge_b13 : n0 ≤ b13 := Nat.le_trans Z0 bd_b13
      have Z13 : n0 ≤ h13.size := Nat.le_trans Z0 E13.1
      have bo_b13 : h0.size ≤ b13 := Nat.le_trans K0.1 bd_b13
      have K13 : Keep h0 h13 [] := K0.ext E13
      have Flowest_13 : Fld Z h13 b13 "com/example/surrogate/surrogate/KeyRange" "lowest" "J" (.long (0 : Int64)) := D13 (Or.inr (hw _ (List.mem_of_getElem? (i := 13) rfl))) (ty := .long) (by decide)
      have Fhighest_13 : Fld Z h13 b13 "com/example/surrogate/surrogate/KeyRange" "highest" "J" (.long (0 : Int64)) := D13 (Or.inr (hw _ (List.mem_of_getElem? (i := 15) rfl))) (ty := .long) (by decide)
      refine own_via (T' := T13) (g' := (mkF m 33 #[.val (.int x0), .val (.int x1), .val (.int (x0 - (1 : Int32))), .val (.long (9223372036854775807 : Int64)), .second] [(.ref b13)])) st13 ?_
      refine own_via (T' := T13) (g' := (mkF m 35 #[.val (.int x0), .val (.int x1), .val (.int (x0 - (1 : Int32))), .val (.long (9223372036854775807 : Int64)), .second] [(.int x1), (.ref b13), (.ref b13)])) (fun t k => XS.dup X13.here hx rfl (hb hby own_d1_33) rfl rfl (XS.iloadN X13.here hx rfl (hb hby own_d1_34) rfl k)) ?_
      refine own_via (T' := T13) (g' := (mkF m 47 #[.val (.int x0), .val (.int x1), .val (.int (x0 - (1 : Int32))), .val (.long (9223372036854775807 : Int64)), .second] [(.long (9223372036854775807 : Int64)), (.long ((-9223372036854775807 : Int64) - (1 : Int64))), (.ref b13), (.ref b13)])) (fun t k => XS.ifNo X13.here hx rfl (hb hby own_d1_35) rfl ((if0 _ _).trans (feq hc1).1) (XS.lloadN X13.here hx rfl (hb hby own_d1_38) rfl (XS.lneg X13.here hx rfl (hb hby own_d1_39) rfl (XS.lconst X13.here hx rfl (hb hby own_d1_40) (XS.lsub X13.here hx rfl (hb hby own_d1_41) rfl (XS.goto X13.here hx rfl (pc0 := 42) (pc' := 46) rfl (hb hby own_d1_42) (by decide) (by decide) (XS.lloadN X13.here hx rfl (hb hby own_d1_46) rfl k))))))) ?_
      obtain ⟨v14, T14, L14, X14, hQ14, st14⟩ := own_callSp (y := (⟨"com/example/surrogate/surrogate/KeyRange", "<init>", "(JJ)V"⟩ : MethodName)) (a := b13) (argsL := [(.long ((-9223372036854775807 : Int64) - (1 : Int64))), (.long (9223372036854775807 : Int64))]) (rest := [(.ref b13)]) X13 hx hZ hown rfl (hw _ (List.mem_of_getElem? (i := 6) rfl)) (hw _ (List.mem_of_getElem? (i := 7) rfl)) (hw _ (List.mem_of_getElem? (i := 2) rfl)) (hw _ (List.mem_of_getElem? (i := 8) rfl)) (by decide) (own_mt2 l Z a0 hw b13 ((-9223372036854775807 : Int64) - (1 : Int64)) (9223372036854775807 : Int64) h13 n0 Z13 ge_b13 A13 Flowest_13 Fhighest_13) e13 (W := 1) (by decide) (by decide) (g := (mkF m 47 #[.val (.int x0), .val (.int x1), .val (.int (x0 - (1 : Int32))), .val (.long (9223372036854775807 : Int64)), .second] [(.long (9223372036854775807 : Int64)), (.long ((-9223372036854775807 : Int64) - (1 : Int64))), (.ref b13), (.ref b13)])) rfl (by rw [hml]; rfl) (lenOf own_pd0 rfl) rfl (by show 2 * 0 + _ ≤ _; exact Nat.le_of_eq rfl) (hb hby own_d1_47) (by decide) (by decide)
      obtain ⟨rfl, Nq14, K14q, G14_0, G14_1, G14_2⟩ := hQ14
      have N14 := Fr.app N0 Nq14
      have Z14 : n0 ≤ T14.heap.size := Nat.le_trans Z13 K14q.1
      have K14 : Keep h0 T14.heap [] := K13.trans K14q (allS (Or.inr bo_b13) all0)
      have A13_at15 := A13.keep K14q
      refine own_via (T' := T14) (g' := (mkF m 50 #[.val (.int x0), .val (.int x1), .val (.int (x0 - (1 : Int32))), .val (.long (9223372036854775807 : Int64)), .second] [(.ref b13)])) st14 ?_
      refine own_retA X14 hx hlk hret rfl rfl (hb hby own_d1_50) (by decide) (by decide) ?_
      exact ⟨b13, rfl, bo_b13, N14, K14, G14_0, (by rw [own_bits_r_lowest, if_neg hc1, if_neg hc9]; exact G14_1), (by rw [own_bits_r_highest, if_neg hc1, if_neg hc9]; exact G14_2)⟩
theorem own_pn1 : plainName "com/example/surrogate/surrogate/KeyRangeOfBitsPinLaw" = true := by first | (simp [plainName, overriddenIn]; done) | decide +kernel
theorem own_pd1 : parseMethodDescriptor "(IZ)Lcom/example/surrogate/surrogate/KeyRange;" = some ⟨[.int, .boolean], some (.object "com/example/surrogate/surrogate/KeyRange")⟩ := by decide +kernel
theorem own_pd2 : parseMethodDescriptor "()J" = some ⟨[], some .long⟩ := by decide +kernel
theorem own_pd3 : parseMethodDescriptor "(II)I" = some ⟨[.int, .int], some .int⟩ := by decide +kernel
def own_f0 (x0 : Int32) (x1 : Int32) : Int32 := (if (x1 &&& (1 : Int32)) = (0 : Int32) then (if (own_high (own_bits_r_highest ((1 : Int32) + (x0 &&& (127 : Int32))) (0 : Int32))) < (0 : Int64) then (0 : Int32) else (if ((own_high (own_bits_r_highest ((1 : Int32) + (x0 &&& (127 : Int32))) (0 : Int32))) &&& ((own_high (own_bits_r_highest ((1 : Int32) + (x0 &&& (127 : Int32))) (0 : Int32))) + (1 : Int64))) = (0 : Int64) then (if (own_min ((1 : Int32) + (x0 &&& (127 : Int32))) (63 : Int32)) = (0 : Int32) then (if (own_high (own_bits_r_highest ((1 : Int32) + (x0 &&& (127 : Int32))) (0 : Int32))) = (0 : Int64) then (if (own_low (own_bits_r_lowest ((1 : Int32) + (x0 &&& (127 : Int32))) (0 : Int32))) = (0 : Int64) then (1 : Int32) else (0 : Int32)) else (0 : Int32)) else (if (((own_high (own_bits_r_highest ((1 : Int32) + (x0 &&& (127 : Int32))) (0 : Int32))).toUInt64 >>> (((own_min ((1 : Int32) + (x0 &&& (127 : Int32))) (63 : Int32)) - (1 : Int32)) &&& 0x3f).toInt64.toUInt64).toInt64) = (1 : Int64) then (if (own_low (own_bits_r_lowest ((1 : Int32) + (x0 &&& (127 : Int32))) (0 : Int32))) = (0 : Int64) then (1 : Int32) else (0 : Int32)) else (0 : Int32))) else (0 : Int32))) else (if (own_high (own_bits_r_highest ((1 : Int32) + (x0 &&& (127 : Int32))) (1 : Int32))) < (0 : Int64) then (0 : Int32) else (if ((own_high (own_bits_r_highest ((1 : Int32) + (x0 &&& (127 : Int32))) (1 : Int32))) &&& ((own_high (own_bits_r_highest ((1 : Int32) + (x0 &&& (127 : Int32))) (1 : Int32))) + (1 : Int64))) = (0 : Int64) then (if (own_min (((1 : Int32) + (x0 &&& (127 : Int32))) - (1 : Int32)) (63 : Int32)) = (0 : Int32) then (if (own_high (own_bits_r_highest ((1 : Int32) + (x0 &&& (127 : Int32))) (1 : Int32))) = (0 : Int64) then (if (own_low (own_bits_r_lowest ((1 : Int32) + (x0 &&& (127 : Int32))) (1 : Int32))) = ((own_high (own_bits_r_highest ((1 : Int32) + (x0 &&& (127 : Int32))) (1 : Int32))) ^^^ (-1 : Int64)) then (1 : Int32) else (0 : Int32)) else (0 : Int32)) else (if (((own_high (own_bits_r_highest ((1 : Int32) + (x0 &&& (127 : Int32))) (1 : Int32))).toUInt64 >>> (((own_min (((1 : Int32) + (x0 &&& (127 : Int32))) - (1 : Int32)) (63 : Int32)) - (1 : Int32)) &&& 0x3f).toInt64.toUInt64).toInt64) = (1 : Int64) then (if (own_low (own_bits_r_lowest ((1 : Int32) + (x0 &&& (127 : Int32))) (1 : Int32))) = ((own_high (own_bits_r_highest ((1 : Int32) + (x0 &&& (127 : Int32))) (1 : Int32))) ^^^ (-1 : Int64)) then (1 : Int32) else (0 : Int32)) else (0 : Int32))) else (0 : Int32))))
theorem own_mt0_ef (m : MethodId) (x0 : Int32) (x1 : Int32) : entryFrame m #[(.int x0), (.int x1)] maxLocals = mkF m 0 #[.val (.int x0), .val (.int x1), .unset, .unset, .unset, .unset, .unset, .unset, .unset, .unset, .unset] [] := by first | rfl | (simp [entryFrame, mkF, argsToLocals, Value.category]; done)
set_option maxRecDepth 65536 in
set_option maxHeartbeats 40000000 in
theorem own_mt0 (l : Launch) (Z : State) (a0 : Array Value) (hw : ∀ d ∈ tables_1, d.before a0 Z = true) (x0 : Int32) (x1 : Int32) (h0 : Heap) (n0 : Nat) (Z0 : n0 ≤ h0.size) :
    own_Met l Z x code maxLocals ret room_1 #[(.int x0), (.int x1)] h0 (fun v h L => v = some (.int (own_f0 x0 x1)) ∧ Fr n0 L) := by
  refine own_intro (plainFor_of_name own_pn1) ?_
  intro p e s m below meth c s₁ hx hby hml hown hnm hZ hret hlk X0 e0
  refine own_cast (own_mt0_ef m x0 x1) ?_
  have N0 := Fr.nil n0
  refine own_via (T' := s₁) (g' := (mkF m 10 #[.val (.int x0), .val (.int x1), .val (.int ((1 : Int32) + (x0 &&& (127 : Int32)))), .unset, .unset, .unset, .unset, .unset, .unset, .unset, .unset] [(.int (x1 &&& (1 : Int32)))])) (fun t k => XS.iconst X0.here hx rfl (hb hby at_0) (XS.iloadN X0.here hx rfl (hb hby at_1) rfl (XS.bipush X0.here hx rfl (hb hby at_2) (XS.iand X0.here hx rfl (hb hby at_4) rfl (XS.iadd X0.here hx rfl (hb hby at_5) rfl (XS.istoreN X0.here hx rfl (hb hby at_6) rfl (l' := #[.val (.int x0), .val (.int x1), .val (.int ((1 : Int32) + (x0 &&& (127 : Int32)))), .unset, .unset, .unset, .unset, .unset, .unset, .unset, .unset]) rfl (XS.iloadN X0.here hx rfl (hb hby at_7) rfl (XS.iconst X0.here hx rfl (hb hby at_8) (XS.iand X0.here hx rfl (hb hby at_9) rfl k))))))))) ?_
  by_cases hc1 : (x1 &&& (1 : Int32)) = (0 : Int32)
  · refine own_via (T' := s₁) (g' := (mkF m 21 #[.val (.int x0), .val (.int x1), .val (.int ((1 : Int32) + (x0 &&& (127 : Int32)))), .val (.int (0 : Int32)), .unset, .unset, .unset, .unset, .unset, .unset, .unset] [(.int (0 : Int32)), (.int ((1 : Int32) + (x0 &&& (127 : Int32))))])) (fun t k => XS.ifYes X0.here hx rfl (pc0 := 10) (pc' := 17) rfl (hb hby at_10) rfl ((if0 _ _).trans (teq hc1).1) (by decide) (by decide) (XS.iconst X0.here hx rfl (hb hby at_17) (XS.istoreN X0.here hx rfl (hb hby at_18) rfl (l' := #[.val (.int x0), .val (.int x1), .val (.int ((1 : Int32) + (x0 &&& (127 : Int32)))), .val (.int (0 : Int32)), .unset, .unset, .unset, .unset, .unset, .unset, .unset]) rfl (XS.iloadN X0.here hx rfl (hb hby at_19) rfl (XS.iloadN X0.here hx rfl (hb hby at_20) rfl k))))) ?_
    obtain ⟨v2, T2, L2, X2, hQ2, st2⟩ := own_callSt (y := (⟨"com/example/surrogate/surrogate/KeyRange", "ofBits", "(IZ)Lcom/example/surrogate/surrogate/KeyRange;"⟩ : MethodName)) (argsL := [(.int ((1 : Int32) + (x0 &&& (127 : Int32)))), (.int (0 : Int32))]) (rest := []) X0 hx hZ hown (hw _ (List.mem_of_getElem? (i := 0) rfl)) (hw _ (List.mem_of_getElem? (i := 1) rfl)) (hw _ (List.mem_of_getElem? (i := 2) rfl)) (hw _ (List.mem_of_getElem? (i := 3) rfl)) (by decide) (own_mt1 l Z a0 hw ((1 : Int32) + (x0 &&& (127 : Int32))) (0 : Int32) h0 n0 Z0) e0 (W := 0) (by decide) (by decide) (g := (mkF m 21 #[.val (.int x0), .val (.int x1), .val (.int ((1 : Int32) + (x0 &&& (127 : Int32)))), .val (.int (0 : Int32)), .unset, .unset, .unset, .unset, .unset, .unset, .unset] [(.int (0 : Int32)), (.int ((1 : Int32) + (x0 &&& (127 : Int32))))])) rfl (by rw [hml]; rfl) (lenOf own_pd1 rfl) rfl (by show 2 * 0 + _ ≤ _; exact Nat.le_of_eq rfl) (hb hby at_21) (by decide) (by decide)
    obtain ⟨r2, rfl, bd2, Nq2, K2q, G2_0, G2_1, G2_2⟩ := hQ2
    have N2 := Fr.app N0 Nq2
    have Z2 : n0 ≤ T2.heap.size := Nat.le_trans Z0 K2q.1
    have ge_r2 : n0 ≤ r2 := Nat.le_trans Z0 bd2
    refine own_via (T' := T2) (g' := (mkF m 24 #[.val (.int x0), .val (.int x1), .val (.int ((1 : Int32) + (x0 &&& (127 : Int32)))), .val (.int (0 : Int32)), .unset, .unset, .unset, .unset, .unset, .unset, .unset] [(.ref r2)])) st2 ?_
    refine own_via (T' := T2) (g' := (mkF m 28 #[.val (.int x0), .val (.int x1), .val (.int ((1 : Int32) + (x0 &&& (127 : Int32)))), .val (.int (0 : Int32)), .val (.ref r2), .unset, .unset, .unset, .unset, .unset, .unset] [(.ref r2)])) (fun t k => XS.astore X2.here hx rfl (hb hby at_24) rfl rfl (l' := #[.val (.int x0), .val (.int x1), .val (.int ((1 : Int32) + (x0 &&& (127 : Int32)))), .val (.int (0 : Int32)), .val (.ref r2), .unset, .unset, .unset, .unset, .unset, .unset]) rfl (XS.aload X2.here hx rfl (hb hby at_26) rfl rfl k)) ?_
    obtain ⟨v3, T3, L3, X3, hQ3, st3⟩ := own_callVi (y := (⟨"com/example/surrogate/surrogate/KeyRange", "highest", "()J"⟩ : MethodName)) (z := (⟨"com/example/surrogate/surrogate/KeyRange", "highest", "()J"⟩ : MethodName)) (a := r2) (C := "com/example/surrogate/surrogate/KeyRange") (argsL := []) (rest := []) X2 hx hZ hown (hw _ (List.mem_of_getElem? (i := 16) rfl)) (hw _ (List.mem_of_getElem? (i := 17) rfl)) (notFace_of_selects (args := #[]) (mvT hZ (hw _ (List.mem_of_getElem? (i := 19) rfl)))) (hw _ (List.mem_of_getElem? (i := 19) rfl)) (hw _ (List.mem_of_getElem? (i := 18) rfl)) (hw _ (List.mem_of_getElem? (i := 2) rfl)) (hw _ (List.mem_of_getElem? (i := 20) rfl)) (by decide) G2_0 (own_mt4 l Z a0 hw r2 (own_bits_r_highest ((1 : Int32) + (x0 &&& (127 : Int32))) (0 : Int32)) T2.heap G2_2) rfl (W := 0) (by decide) (by decide) (g := (mkF m 28 #[.val (.int x0), .val (.int x1), .val (.int ((1 : Int32) + (x0 &&& (127 : Int32)))), .val (.int (0 : Int32)), .val (.ref r2), .unset, .unset, .unset, .unset, .unset, .unset] [(.ref r2)])) rfl (by rw [hml]; rfl) (lenOf own_pd2 rfl) rfl (by show 2 * 0 + _ ≤ _; exact Nat.le_of_eq rfl) (hb hby at_28) (by decide) (by decide)
    obtain ⟨rfl, e3, rfl⟩ := hQ3
    have N3 := Fr.app N2 (Fr.nil n0)
    refine own_via (T' := T3) (g' := (mkF m 31 #[.val (.int x0), .val (.int x1), .val (.int ((1 : Int32) + (x0 &&& (127 : Int32)))), .val (.int (0 : Int32)), .val (.ref r2), .unset, .unset, .unset, .unset, .unset, .unset] [(.long (own_high (own_bits_r_highest ((1 : Int32) + (x0 &&& (127 : Int32))) (0 : Int32))))])) st3 ?_
    refine own_via (T' := T3) (g' := (mkF m 35 #[.val (.int x0), .val (.int x1), .val (.int ((1 : Int32) + (x0 &&& (127 : Int32)))), .val (.int (0 : Int32)), .val (.ref r2), .val (.long (own_high (own_bits_r_highest ((1 : Int32) + (x0 &&& (127 : Int32))) (0 : Int32)))), .second, .unset, .unset, .unset, .unset] [(.ref r2)])) (fun t k => XS.lstore X3.here hx rfl (hb hby at_31) rfl (l' := #[.val (.int x0), .val (.int x1), .val (.int ((1 : Int32) + (x0 &&& (127 : Int32)))), .val (.int (0 : Int32)), .val (.ref r2), .val (.long (own_high (own_bits_r_highest ((1 : Int32) + (x0 &&& (127 : Int32))) (0 : Int32)))), .second, .unset, .unset, .unset, .unset]) rfl (XS.aload X3.here hx rfl (hb hby at_33) rfl rfl k)) ?_
    obtain ⟨v4, T4, L4, X4, hQ4, st4⟩ := own_callVi (y := (⟨"com/example/surrogate/surrogate/KeyRange", "lowest", "()J"⟩ : MethodName)) (z := (⟨"com/example/surrogate/surrogate/KeyRange", "lowest", "()J"⟩ : MethodName)) (a := r2) (C := "com/example/surrogate/surrogate/KeyRange") (argsL := []) (rest := []) X3 hx hZ hown (hw _ (List.mem_of_getElem? (i := 21) rfl)) (hw _ (List.mem_of_getElem? (i := 22) rfl)) (notFace_of_selects (args := #[]) (mvT hZ (hw _ (List.mem_of_getElem? (i := 24) rfl)))) (hw _ (List.mem_of_getElem? (i := 24) rfl)) (hw _ (List.mem_of_getElem? (i := 23) rfl)) (hw _ (List.mem_of_getElem? (i := 2) rfl)) (hw _ (List.mem_of_getElem? (i := 25) rfl)) (by decide) G2_0 (own_mt5 l Z a0 hw r2 (own_bits_r_lowest ((1 : Int32) + (x0 &&& (127 : Int32))) (0 : Int32)) T2.heap G2_1) e3 (W := 0) (by decide) (by decide) (g := (mkF m 35 #[.val (.int x0), .val (.int x1), .val (.int ((1 : Int32) + (x0 &&& (127 : Int32)))), .val (.int (0 : Int32)), .val (.ref r2), .val (.long (own_high (own_bits_r_highest ((1 : Int32) + (x0 &&& (127 : Int32))) (0 : Int32)))), .second, .unset, .unset, .unset, .unset] [(.ref r2)])) rfl (by rw [hml]; rfl) (lenOf own_pd2 rfl) rfl (by show 2 * 0 + _ ≤ _; exact Nat.le_of_eq rfl) (hb hby at_35) (by decide) (by decide)
    obtain ⟨rfl, e4, rfl⟩ := hQ4
    have N4 := Fr.app N3 (Fr.nil n0)
    refine own_via (T' := T4) (g' := (mkF m 38 #[.val (.int x0), .val (.int x1), .val (.int ((1 : Int32) + (x0 &&& (127 : Int32)))), .val (.int (0 : Int32)), .val (.ref r2), .val (.long (own_high (own_bits_r_highest ((1 : Int32) + (x0 &&& (127 : Int32))) (0 : Int32)))), .second, .unset, .unset, .unset, .unset] [(.long (own_low (own_bits_r_lowest ((1 : Int32) + (x0 &&& (127 : Int32))) (0 : Int32))))])) st4 ?_
    refine own_via (T' := T4) (g' := (mkF m 41 #[.val (.int x0), .val (.int x1), .val (.int ((1 : Int32) + (x0 &&& (127 : Int32)))), .val (.int (0 : Int32)), .val (.ref r2), .val (.long (own_high (own_bits_r_highest ((1 : Int32) + (x0 &&& (127 : Int32))) (0 : Int32)))), .second, .val (.long (own_low (own_bits_r_lowest ((1 : Int32) + (x0 &&& (127 : Int32))) (0 : Int32)))), .second, .unset, .unset] [(.int (0 : Int32))])) (fun t k => XS.lstore X4.here hx rfl (hb hby at_38) rfl (l' := #[.val (.int x0), .val (.int x1), .val (.int ((1 : Int32) + (x0 &&& (127 : Int32)))), .val (.int (0 : Int32)), .val (.ref r2), .val (.long (own_high (own_bits_r_highest ((1 : Int32) + (x0 &&& (127 : Int32))) (0 : Int32)))), .second, .val (.long (own_low (own_bits_r_lowest ((1 : Int32) + (x0 &&& (127 : Int32))) (0 : Int32)))), .second, .unset, .unset]) rfl (XS.iloadN X4.here hx rfl (hb hby at_40) rfl k)) ?_
    refine own_via (T' := T4) (g' := (mkF m 57 #[.val (.int x0), .val (.int x1), .val (.int ((1 : Int32) + (x0 &&& (127 : Int32)))), .val (.int (0 : Int32)), .val (.ref r2), .val (.long (own_high (own_bits_r_highest ((1 : Int32) + (x0 &&& (127 : Int32))) (0 : Int32)))), .second, .val (.long (own_low (own_bits_r_lowest ((1 : Int32) + (x0 &&& (127 : Int32))) (0 : Int32)))), .second, .val (.int ((1 : Int32) + (x0 &&& (127 : Int32)))), .unset] [(.int (63 : Int32)), (.int ((1 : Int32) + (x0 &&& (127 : Int32))))])) (fun t k => XS.ifYes X4.here hx rfl (pc0 := 41) (pc' := 50) rfl (hb hby at_41) rfl ((if0 _ _).trans (teq (by decide : (0 : Int32) = (0 : Int32))).1) (by decide) (by decide) (XS.iloadN X4.here hx rfl (hb hby at_50) rfl (XS.istore X4.here hx rfl (hb hby at_51) rfl (l' := #[.val (.int x0), .val (.int x1), .val (.int ((1 : Int32) + (x0 &&& (127 : Int32)))), .val (.int (0 : Int32)), .val (.ref r2), .val (.long (own_high (own_bits_r_highest ((1 : Int32) + (x0 &&& (127 : Int32))) (0 : Int32)))), .second, .val (.long (own_low (own_bits_r_lowest ((1 : Int32) + (x0 &&& (127 : Int32))) (0 : Int32)))), .second, .val (.int ((1 : Int32) + (x0 &&& (127 : Int32)))), .unset]) rfl (XS.iload X4.here hx rfl (hb hby at_53) rfl (XS.bipush X4.here hx rfl (hb hby at_55) k))))) ?_
    obtain ⟨v5, T5, L5, X5, hQ5, st5⟩ := own_callSt (y := (⟨"java/lang/Math", "min", "(II)I"⟩ : MethodName)) (argsL := [(.int ((1 : Int32) + (x0 &&& (127 : Int32)))), (.int (63 : Int32))]) (rest := []) X4 hx hZ hown (hw _ (List.mem_of_getElem? (i := 26) rfl)) (hw _ (List.mem_of_getElem? (i := 27) rfl)) (hw _ (List.mem_of_getElem? (i := 28) rfl)) (hw _ (List.mem_of_getElem? (i := 29) rfl)) (by decide) (own_mt6 l Z a0 hw ((1 : Int32) + (x0 &&& (127 : Int32))) (63 : Int32) T2.heap) e4 (W := 0) (by decide) (by decide) (g := (mkF m 57 #[.val (.int x0), .val (.int x1), .val (.int ((1 : Int32) + (x0 &&& (127 : Int32)))), .val (.int (0 : Int32)), .val (.ref r2), .val (.long (own_high (own_bits_r_highest ((1 : Int32) + (x0 &&& (127 : Int32))) (0 : Int32)))), .second, .val (.long (own_low (own_bits_r_lowest ((1 : Int32) + (x0 &&& (127 : Int32))) (0 : Int32)))), .second, .val (.int ((1 : Int32) + (x0 &&& (127 : Int32)))), .unset] [(.int (63 : Int32)), (.int ((1 : Int32) + (x0 &&& (127 : Int32))))])) rfl (by rw [hml]; rfl) (lenOf own_pd3 rfl) rfl (by show 2 * 0 + _ ≤ _; exact Nat.le_of_eq rfl) (hb hby at_57) (by decide) (by decide)
    obtain ⟨rfl, e5, rfl⟩ := hQ5
    have N5 := Fr.app N4 (Fr.nil n0)
    refine own_via (T' := T5) (g' := (mkF m 60 #[.val (.int x0), .val (.int x1), .val (.int ((1 : Int32) + (x0 &&& (127 : Int32)))), .val (.int (0 : Int32)), .val (.ref r2), .val (.long (own_high (own_bits_r_highest ((1 : Int32) + (x0 &&& (127 : Int32))) (0 : Int32)))), .second, .val (.long (own_low (own_bits_r_lowest ((1 : Int32) + (x0 &&& (127 : Int32))) (0 : Int32)))), .second, .val (.int ((1 : Int32) + (x0 &&& (127 : Int32)))), .unset] [(.int (own_min ((1 : Int32) + (x0 &&& (127 : Int32))) (63 : Int32)))])) st5 ?_
    refine own_via (T' := T5) (g' := (mkF m 66 #[.val (.int x0), .val (.int x1), .val (.int ((1 : Int32) + (x0 &&& (127 : Int32)))), .val (.int (0 : Int32)), .val (.ref r2), .val (.long (own_high (own_bits_r_highest ((1 : Int32) + (x0 &&& (127 : Int32))) (0 : Int32)))), .second, .val (.long (own_low (own_bits_r_lowest ((1 : Int32) + (x0 &&& (127 : Int32))) (0 : Int32)))), .second, .val (.int ((1 : Int32) + (x0 &&& (127 : Int32)))), .val (.int (own_min ((1 : Int32) + (x0 &&& (127 : Int32))) (63 : Int32)))] [(.int (lcmpW (own_high (own_bits_r_highest ((1 : Int32) + (x0 &&& (127 : Int32))) (0 : Int32))) (0 : Int64)))])) (fun t k => XS.istore X5.here hx rfl (hb hby at_60) rfl (l' := #[.val (.int x0), .val (.int x1), .val (.int ((1 : Int32) + (x0 &&& (127 : Int32)))), .val (.int (0 : Int32)), .val (.ref r2), .val (.long (own_high (own_bits_r_highest ((1 : Int32) + (x0 &&& (127 : Int32))) (0 : Int32)))), .second, .val (.long (own_low (own_bits_r_lowest ((1 : Int32) + (x0 &&& (127 : Int32))) (0 : Int32)))), .second, .val (.int ((1 : Int32) + (x0 &&& (127 : Int32)))), .val (.int (own_min ((1 : Int32) + (x0 &&& (127 : Int32))) (63 : Int32)))]) rfl (XS.lload X5.here hx rfl (hb hby at_62) rfl (XS.lconst X5.here hx rfl (hb hby at_64) (XS.lcmp X5.here hx rfl (hb hby at_65) rfl k)))) ?_
    by_cases hc6 : (own_high (own_bits_r_highest ((1 : Int32) + (x0 &&& (127 : Int32))) (0 : Int32))) < (0 : Int64)
    · refine own_via (T' := T5) (g' := (mkF m 70 #[.val (.int x0), .val (.int x1), .val (.int ((1 : Int32) + (x0 &&& (127 : Int32)))), .val (.int (0 : Int32)), .val (.ref r2), .val (.long (own_high (own_bits_r_highest ((1 : Int32) + (x0 &&& (127 : Int32))) (0 : Int32)))), .second, .val (.long (own_low (own_bits_r_lowest ((1 : Int32) + (x0 &&& (127 : Int32))) (0 : Int32)))), .second, .val (.int ((1 : Int32) + (x0 &&& (127 : Int32)))), .val (.int (own_min ((1 : Int32) + (x0 &&& (127 : Int32))) (63 : Int32)))] [(.int (0 : Int32))])) (fun t k => XS.ifNo X5.here hx rfl (hb hby at_66) rfl ((if0 _ _).trans (tlt ((lw_lt (own_high (own_bits_r_highest ((1 : Int32) + (x0 &&& (127 : Int32))) (0 : Int32))) (0 : Int64)).mpr hc6)).2.1) (XS.iconst X5.here hx rfl (hb hby at_69) k)) ?_
      refine own_retN X5 hx hlk (ty := .boolean) hret (by simp) (hb hby at_70) (by decide) (by decide) ?_
      exact ⟨by rw [own_f0, if_pos hc1, if_pos hc6] <;> rfl, N5⟩
    · refine own_via (T' := T5) (g' := (mkF m 80 #[.val (.int x0), .val (.int x1), .val (.int ((1 : Int32) + (x0 &&& (127 : Int32)))), .val (.int (0 : Int32)), .val (.ref r2), .val (.long (own_high (own_bits_r_highest ((1 : Int32) + (x0 &&& (127 : Int32))) (0 : Int32)))), .second, .val (.long (own_low (own_bits_r_lowest ((1 : Int32) + (x0 &&& (127 : Int32))) (0 : Int32)))), .second, .val (.int ((1 : Int32) + (x0 &&& (127 : Int32)))), .val (.int (own_min ((1 : Int32) + (x0 &&& (127 : Int32))) (63 : Int32)))] [(.int (lcmpW ((own_high (own_bits_r_highest ((1 : Int32) + (x0 &&& (127 : Int32))) (0 : Int32))) &&& ((own_high (own_bits_r_highest ((1 : Int32) + (x0 &&& (127 : Int32))) (0 : Int32))) + (1 : Int64))) (0 : Int64)))])) (fun t k => XS.ifYes X5.here hx rfl (pc0 := 66) (pc' := 71) rfl (hb hby at_66) rfl ((if0 _ _).trans (flt (fun q => hc6 ((lw_lt (own_high (own_bits_r_highest ((1 : Int32) + (x0 &&& (127 : Int32))) (0 : Int32))) (0 : Int64)).mp q))).2.1) (by decide) (by decide) (XS.lload X5.here hx rfl (hb hby at_71) rfl (XS.lload X5.here hx rfl (hb hby at_73) rfl (XS.lconst X5.here hx rfl (hb hby at_75) (XS.ladd X5.here hx rfl (hb hby at_76) rfl (XS.land X5.here hx rfl (hb hby at_77) rfl (XS.lconst X5.here hx rfl (hb hby at_78) (XS.lcmp X5.here hx rfl (hb hby at_79) rfl k)))))))) ?_
      by_cases hc7 : ((own_high (own_bits_r_highest ((1 : Int32) + (x0 &&& (127 : Int32))) (0 : Int32))) &&& ((own_high (own_bits_r_highest ((1 : Int32) + (x0 &&& (127 : Int32))) (0 : Int32))) + (1 : Int64))) = (0 : Int64)
      · refine own_via (T' := T5) (g' := (mkF m 87 #[.val (.int x0), .val (.int x1), .val (.int ((1 : Int32) + (x0 &&& (127 : Int32)))), .val (.int (0 : Int32)), .val (.ref r2), .val (.long (own_high (own_bits_r_highest ((1 : Int32) + (x0 &&& (127 : Int32))) (0 : Int32)))), .second, .val (.long (own_low (own_bits_r_lowest ((1 : Int32) + (x0 &&& (127 : Int32))) (0 : Int32)))), .second, .val (.int ((1 : Int32) + (x0 &&& (127 : Int32)))), .val (.int (own_min ((1 : Int32) + (x0 &&& (127 : Int32))) (63 : Int32)))] [(.int (own_min ((1 : Int32) + (x0 &&& (127 : Int32))) (63 : Int32)))])) (fun t k => XS.ifYes X5.here hx rfl (pc0 := 80) (pc' := 85) rfl (hb hby at_80) rfl ((if0 _ _).trans (teq ((lw_eq ((own_high (own_bits_r_highest ((1 : Int32) + (x0 &&& (127 : Int32))) (0 : Int32))) &&& ((own_high (own_bits_r_highest ((1 : Int32) + (x0 &&& (127 : Int32))) (0 : Int32))) + (1 : Int64))) (0 : Int64)).mpr hc7)).1) (by decide) (by decide) (XS.iload X5.here hx rfl (hb hby at_85) rfl k)) ?_
        by_cases hc8 : (own_min ((1 : Int32) + (x0 &&& (127 : Int32))) (63 : Int32)) = (0 : Int32)
        · refine own_via (T' := T5) (g' := (mkF m 94 #[.val (.int x0), .val (.int x1), .val (.int ((1 : Int32) + (x0 &&& (127 : Int32)))), .val (.int (0 : Int32)), .val (.ref r2), .val (.long (own_high (own_bits_r_highest ((1 : Int32) + (x0 &&& (127 : Int32))) (0 : Int32)))), .second, .val (.long (own_low (own_bits_r_lowest ((1 : Int32) + (x0 &&& (127 : Int32))) (0 : Int32)))), .second, .val (.int ((1 : Int32) + (x0 &&& (127 : Int32)))), .val (.int (own_min ((1 : Int32) + (x0 &&& (127 : Int32))) (63 : Int32)))] [(.int (lcmpW (own_high (own_bits_r_highest ((1 : Int32) + (x0 &&& (127 : Int32))) (0 : Int32))) (0 : Int64)))])) (fun t k => XS.ifNo X5.here hx rfl (hb hby at_87) rfl ((if0 _ _).trans (teq hc8).2) (XS.lload X5.here hx rfl (hb hby at_90) rfl (XS.lconst X5.here hx rfl (hb hby at_92) (XS.lcmp X5.here hx rfl (hb hby at_93) rfl k)))) ?_
          by_cases hc9 : (own_high (own_bits_r_highest ((1 : Int32) + (x0 &&& (127 : Int32))) (0 : Int32))) = (0 : Int64)
          · refine own_via (T' := T5) (g' := (mkF m 114 #[.val (.int x0), .val (.int x1), .val (.int ((1 : Int32) + (x0 &&& (127 : Int32)))), .val (.int (0 : Int32)), .val (.ref r2), .val (.long (own_high (own_bits_r_highest ((1 : Int32) + (x0 &&& (127 : Int32))) (0 : Int32)))), .second, .val (.long (own_low (own_bits_r_lowest ((1 : Int32) + (x0 &&& (127 : Int32))) (0 : Int32)))), .second, .val (.int ((1 : Int32) + (x0 &&& (127 : Int32)))), .val (.int (own_min ((1 : Int32) + (x0 &&& (127 : Int32))) (63 : Int32)))] [(.int (0 : Int32))])) (fun t k => XS.ifYes X5.here hx rfl (pc0 := 94) (pc' := 113) rfl (hb hby at_94) rfl ((if0 _ _).trans (teq ((lw_eq (own_high (own_bits_r_highest ((1 : Int32) + (x0 &&& (127 : Int32))) (0 : Int32))) (0 : Int64)).mpr hc9)).1) (by decide) (by decide) (XS.iloadN X5.here hx rfl (hb hby at_113) rfl k)) ?_
            refine own_via (T' := T5) (g' := (mkF m 139 #[.val (.int x0), .val (.int x1), .val (.int ((1 : Int32) + (x0 &&& (127 : Int32)))), .val (.int (0 : Int32)), .val (.ref r2), .val (.long (own_high (own_bits_r_highest ((1 : Int32) + (x0 &&& (127 : Int32))) (0 : Int32)))), .second, .val (.long (own_low (own_bits_r_lowest ((1 : Int32) + (x0 &&& (127 : Int32))) (0 : Int32)))), .second, .val (.int ((1 : Int32) + (x0 &&& (127 : Int32)))), .val (.int (own_min ((1 : Int32) + (x0 &&& (127 : Int32))) (63 : Int32)))] [(.int (lcmpW (own_low (own_bits_r_lowest ((1 : Int32) + (x0 &&& (127 : Int32))) (0 : Int32))) (0 : Int64)))])) (fun t k => XS.ifYes X5.here hx rfl (pc0 := 114) (pc' := 135) rfl (hb hby at_114) rfl ((if0 _ _).trans (teq (by decide : (0 : Int32) = (0 : Int32))).1) (by decide) (by decide) (XS.lload X5.here hx rfl (hb hby at_135) rfl (XS.lconst X5.here hx rfl (hb hby at_137) (XS.lcmp X5.here hx rfl (hb hby at_138) rfl k)))) ?_
            by_cases hc10 : (own_low (own_bits_r_lowest ((1 : Int32) + (x0 &&& (127 : Int32))) (0 : Int32))) = (0 : Int64)
            · refine own_via (T' := T5) (g' := (mkF m 147 #[.val (.int x0), .val (.int x1), .val (.int ((1 : Int32) + (x0 &&& (127 : Int32)))), .val (.int (0 : Int32)), .val (.ref r2), .val (.long (own_high (own_bits_r_highest ((1 : Int32) + (x0 &&& (127 : Int32))) (0 : Int32)))), .second, .val (.long (own_low (own_bits_r_lowest ((1 : Int32) + (x0 &&& (127 : Int32))) (0 : Int32)))), .second, .val (.int ((1 : Int32) + (x0 &&& (127 : Int32)))), .val (.int (own_min ((1 : Int32) + (x0 &&& (127 : Int32))) (63 : Int32)))] [(.int (1 : Int32))])) (fun t k => XS.ifNo X5.here hx rfl (hb hby at_139) rfl ((if0 _ _).trans (teq ((lw_eq (own_low (own_bits_r_lowest ((1 : Int32) + (x0 &&& (127 : Int32))) (0 : Int32))) (0 : Int64)).mpr hc10)).2) (XS.iconst X5.here hx rfl (hb hby at_142) (XS.goto X5.here hx rfl (pc0 := 143) (pc' := 147) rfl (hb hby at_143) (by decide) (by decide) k))) ?_
              refine own_retN X5 hx hlk (ty := .boolean) hret (by simp) (hb hby at_147) (by decide) (by decide) ?_
              exact ⟨by rw [own_f0, if_pos hc1, if_neg hc6, if_pos hc7, if_pos hc8, if_pos hc9, if_pos hc10] <;> rfl, N5⟩
            · refine own_via (T' := T5) (g' := (mkF m 147 #[.val (.int x0), .val (.int x1), .val (.int ((1 : Int32) + (x0 &&& (127 : Int32)))), .val (.int (0 : Int32)), .val (.ref r2), .val (.long (own_high (own_bits_r_highest ((1 : Int32) + (x0 &&& (127 : Int32))) (0 : Int32)))), .second, .val (.long (own_low (own_bits_r_lowest ((1 : Int32) + (x0 &&& (127 : Int32))) (0 : Int32)))), .second, .val (.int ((1 : Int32) + (x0 &&& (127 : Int32)))), .val (.int (own_min ((1 : Int32) + (x0 &&& (127 : Int32))) (63 : Int32)))] [(.int (0 : Int32))])) (fun t k => XS.ifYes X5.here hx rfl (pc0 := 139) (pc' := 146) rfl (hb hby at_139) rfl ((if0 _ _).trans (feq (fun q => hc10 ((lw_eq (own_low (own_bits_r_lowest ((1 : Int32) + (x0 &&& (127 : Int32))) (0 : Int32))) (0 : Int64)).mp q))).2) (by decide) (by decide) (XS.iconst X5.here hx rfl (hb hby at_146) k)) ?_
              refine own_retN X5 hx hlk (ty := .boolean) hret (by simp) (hb hby at_147) (by decide) (by decide) ?_
              exact ⟨by rw [own_f0, if_pos hc1, if_neg hc6, if_pos hc7, if_pos hc8, if_pos hc9, if_neg hc10] <;> rfl, N5⟩
          · refine own_via (T' := T5) (g' := (mkF m 98 #[.val (.int x0), .val (.int x1), .val (.int ((1 : Int32) + (x0 &&& (127 : Int32)))), .val (.int (0 : Int32)), .val (.ref r2), .val (.long (own_high (own_bits_r_highest ((1 : Int32) + (x0 &&& (127 : Int32))) (0 : Int32)))), .second, .val (.long (own_low (own_bits_r_lowest ((1 : Int32) + (x0 &&& (127 : Int32))) (0 : Int32)))), .second, .val (.int ((1 : Int32) + (x0 &&& (127 : Int32)))), .val (.int (own_min ((1 : Int32) + (x0 &&& (127 : Int32))) (63 : Int32)))] [(.int (0 : Int32))])) (fun t k => XS.ifNo X5.here hx rfl (hb hby at_94) rfl ((if0 _ _).trans (feq (fun q => hc9 ((lw_eq (own_high (own_bits_r_highest ((1 : Int32) + (x0 &&& (127 : Int32))) (0 : Int32))) (0 : Int64)).mp q))).1) (XS.iconst X5.here hx rfl (hb hby at_97) k)) ?_
            refine own_retN X5 hx hlk (ty := .boolean) hret (by simp) (hb hby at_98) (by decide) (by decide) ?_
            exact ⟨by rw [own_f0, if_pos hc1, if_neg hc6, if_pos hc7, if_pos hc8, if_neg hc9] <;> rfl, N5⟩
        · refine own_via (T' := T5) (g' := (mkF m 108 #[.val (.int x0), .val (.int x1), .val (.int ((1 : Int32) + (x0 &&& (127 : Int32)))), .val (.int (0 : Int32)), .val (.ref r2), .val (.long (own_high (own_bits_r_highest ((1 : Int32) + (x0 &&& (127 : Int32))) (0 : Int32)))), .second, .val (.long (own_low (own_bits_r_lowest ((1 : Int32) + (x0 &&& (127 : Int32))) (0 : Int32)))), .second, .val (.int ((1 : Int32) + (x0 &&& (127 : Int32)))), .val (.int (own_min ((1 : Int32) + (x0 &&& (127 : Int32))) (63 : Int32)))] [(.int (lcmpW (((own_high (own_bits_r_highest ((1 : Int32) + (x0 &&& (127 : Int32))) (0 : Int32))).toUInt64 >>> (((own_min ((1 : Int32) + (x0 &&& (127 : Int32))) (63 : Int32)) - (1 : Int32)) &&& 0x3f).toInt64.toUInt64).toInt64) (1 : Int64)))])) (fun t k => XS.ifYes X5.here hx rfl (pc0 := 87) (pc' := 99) rfl (hb hby at_87) rfl ((if0 _ _).trans (feq hc8).2) (by decide) (by decide) (XS.lload X5.here hx rfl (hb hby at_99) rfl (XS.iload X5.here hx rfl (hb hby at_101) rfl (XS.iconst X5.here hx rfl (hb hby at_103) (XS.isub X5.here hx rfl (hb hby at_104) rfl (XS.lushr X5.here hx rfl (hb hby at_105) rfl (XS.lconst X5.here hx rfl (hb hby at_106) (XS.lcmp X5.here hx rfl (hb hby at_107) rfl k)))))))) ?_
          by_cases hc11 : (((own_high (own_bits_r_highest ((1 : Int32) + (x0 &&& (127 : Int32))) (0 : Int32))).toUInt64 >>> (((own_min ((1 : Int32) + (x0 &&& (127 : Int32))) (63 : Int32)) - (1 : Int32)) &&& 0x3f).toInt64.toUInt64).toInt64) = (1 : Int64)
          · refine own_via (T' := T5) (g' := (mkF m 114 #[.val (.int x0), .val (.int x1), .val (.int ((1 : Int32) + (x0 &&& (127 : Int32)))), .val (.int (0 : Int32)), .val (.ref r2), .val (.long (own_high (own_bits_r_highest ((1 : Int32) + (x0 &&& (127 : Int32))) (0 : Int32)))), .second, .val (.long (own_low (own_bits_r_lowest ((1 : Int32) + (x0 &&& (127 : Int32))) (0 : Int32)))), .second, .val (.int ((1 : Int32) + (x0 &&& (127 : Int32)))), .val (.int (own_min ((1 : Int32) + (x0 &&& (127 : Int32))) (63 : Int32)))] [(.int (0 : Int32))])) (fun t k => XS.ifYes X5.here hx rfl (pc0 := 108) (pc' := 113) rfl (hb hby at_108) rfl ((if0 _ _).trans (teq ((lw_eq (((own_high (own_bits_r_highest ((1 : Int32) + (x0 &&& (127 : Int32))) (0 : Int32))).toUInt64 >>> (((own_min ((1 : Int32) + (x0 &&& (127 : Int32))) (63 : Int32)) - (1 : Int32)) &&& 0x3f).toInt64.toUInt64).toInt64) (1 : Int64)).mpr hc11)).1) (by decide) (by decide) (XS.iloadN X5.here hx rfl (hb hby at_113) rfl k)) ?_
            refine own_via (T' := T5) (g' := (mkF m 139 #[.val (.int x0), .val (.int x1), .val (.int ((1 : Int32) + (x0 &&& (127 : Int32)))), .val (.int (0 : Int32)), .val (.ref r2), .val (.long (own_high (own_bits_r_highest ((1 : Int32) + (x0 &&& (127 : Int32))) (0 : Int32)))), .second, .val (.long (own_low (own_bits_r_lowest ((1 : Int32) + (x0 &&& (127 : Int32))) (0 : Int32)))), .second, .val (.int ((1 : Int32) + (x0 &&& (127 : Int32)))), .val (.int (own_min ((1 : Int32) + (x0 &&& (127 : Int32))) (63 : Int32)))] [(.int (lcmpW (own_low (own_bits_r_lowest ((1 : Int32) + (x0 &&& (127 : Int32))) (0 : Int32))) (0 : Int64)))])) (fun t k => XS.ifYes X5.here hx rfl (pc0 := 114) (pc' := 135) rfl (hb hby at_114) rfl ((if0 _ _).trans (teq (by decide : (0 : Int32) = (0 : Int32))).1) (by decide) (by decide) (XS.lload X5.here hx rfl (hb hby at_135) rfl (XS.lconst X5.here hx rfl (hb hby at_137) (XS.lcmp X5.here hx rfl (hb hby at_138) rfl k)))) ?_
            by_cases hc12 : (own_low (own_bits_r_lowest ((1 : Int32) + (x0 &&& (127 : Int32))) (0 : Int32))) = (0 : Int64)
            · refine own_via (T' := T5) (g' := (mkF m 147 #[.val (.int x0), .val (.int x1), .val (.int ((1 : Int32) + (x0 &&& (127 : Int32)))), .val (.int (0 : Int32)), .val (.ref r2), .val (.long (own_high (own_bits_r_highest ((1 : Int32) + (x0 &&& (127 : Int32))) (0 : Int32)))), .second, .val (.long (own_low (own_bits_r_lowest ((1 : Int32) + (x0 &&& (127 : Int32))) (0 : Int32)))), .second, .val (.int ((1 : Int32) + (x0 &&& (127 : Int32)))), .val (.int (own_min ((1 : Int32) + (x0 &&& (127 : Int32))) (63 : Int32)))] [(.int (1 : Int32))])) (fun t k => XS.ifNo X5.here hx rfl (hb hby at_139) rfl ((if0 _ _).trans (teq ((lw_eq (own_low (own_bits_r_lowest ((1 : Int32) + (x0 &&& (127 : Int32))) (0 : Int32))) (0 : Int64)).mpr hc12)).2) (XS.iconst X5.here hx rfl (hb hby at_142) (XS.goto X5.here hx rfl (pc0 := 143) (pc' := 147) rfl (hb hby at_143) (by decide) (by decide) k))) ?_
              refine own_retN X5 hx hlk (ty := .boolean) hret (by simp) (hb hby at_147) (by decide) (by decide) ?_
              exact ⟨by rw [own_f0, if_pos hc1, if_neg hc6, if_pos hc7, if_neg hc8, if_pos hc11, if_pos hc12] <;> rfl, N5⟩
            · refine own_via (T' := T5) (g' := (mkF m 147 #[.val (.int x0), .val (.int x1), .val (.int ((1 : Int32) + (x0 &&& (127 : Int32)))), .val (.int (0 : Int32)), .val (.ref r2), .val (.long (own_high (own_bits_r_highest ((1 : Int32) + (x0 &&& (127 : Int32))) (0 : Int32)))), .second, .val (.long (own_low (own_bits_r_lowest ((1 : Int32) + (x0 &&& (127 : Int32))) (0 : Int32)))), .second, .val (.int ((1 : Int32) + (x0 &&& (127 : Int32)))), .val (.int (own_min ((1 : Int32) + (x0 &&& (127 : Int32))) (63 : Int32)))] [(.int (0 : Int32))])) (fun t k => XS.ifYes X5.here hx rfl (pc0 := 139) (pc' := 146) rfl (hb hby at_139) rfl ((if0 _ _).trans (feq (fun q => hc12 ((lw_eq (own_low (own_bits_r_lowest ((1 : Int32) + (x0 &&& (127 : Int32))) (0 : Int32))) (0 : Int64)).mp q))).2) (by decide) (by decide) (XS.iconst X5.here hx rfl (hb hby at_146) k)) ?_
              refine own_retN X5 hx hlk (ty := .boolean) hret (by simp) (hb hby at_147) (by decide) (by decide) ?_
              exact ⟨by rw [own_f0, if_pos hc1, if_neg hc6, if_pos hc7, if_neg hc8, if_pos hc11, if_neg hc12] <;> rfl, N5⟩
          · refine own_via (T' := T5) (g' := (mkF m 112 #[.val (.int x0), .val (.int x1), .val (.int ((1 : Int32) + (x0 &&& (127 : Int32)))), .val (.int (0 : Int32)), .val (.ref r2), .val (.long (own_high (own_bits_r_highest ((1 : Int32) + (x0 &&& (127 : Int32))) (0 : Int32)))), .second, .val (.long (own_low (own_bits_r_lowest ((1 : Int32) + (x0 &&& (127 : Int32))) (0 : Int32)))), .second, .val (.int ((1 : Int32) + (x0 &&& (127 : Int32)))), .val (.int (own_min ((1 : Int32) + (x0 &&& (127 : Int32))) (63 : Int32)))] [(.int (0 : Int32))])) (fun t k => XS.ifNo X5.here hx rfl (hb hby at_108) rfl ((if0 _ _).trans (feq (fun q => hc11 ((lw_eq (((own_high (own_bits_r_highest ((1 : Int32) + (x0 &&& (127 : Int32))) (0 : Int32))).toUInt64 >>> (((own_min ((1 : Int32) + (x0 &&& (127 : Int32))) (63 : Int32)) - (1 : Int32)) &&& 0x3f).toInt64.toUInt64).toInt64) (1 : Int64)).mp q))).1) (XS.iconst X5.here hx rfl (hb hby at_111) k)) ?_
            refine own_retN X5 hx hlk (ty := .boolean) hret (by simp) (hb hby at_112) (by decide) (by decide) ?_
            exact ⟨by rw [own_f0, if_pos hc1, if_neg hc6, if_pos hc7, if_neg hc8, if_neg hc11] <;> rfl, N5⟩
      · refine own_via (T' := T5) (g' := (mkF m 84 #[.val (.int x0), .val (.int x1), .val (.int ((1 : Int32) + (x0 &&& (127 : Int32)))), .val (.int (0 : Int32)), .val (.ref r2), .val (.long (own_high (own_bits_r_highest ((1 : Int32) + (x0 &&& (127 : Int32))) (0 : Int32)))), .second, .val (.long (own_low (own_bits_r_lowest ((1 : Int32) + (x0 &&& (127 : Int32))) (0 : Int32)))), .second, .val (.int ((1 : Int32) + (x0 &&& (127 : Int32)))), .val (.int (own_min ((1 : Int32) + (x0 &&& (127 : Int32))) (63 : Int32)))] [(.int (0 : Int32))])) (fun t k => XS.ifNo X5.here hx rfl (hb hby at_80) rfl ((if0 _ _).trans (feq (fun q => hc7 ((lw_eq ((own_high (own_bits_r_highest ((1 : Int32) + (x0 &&& (127 : Int32))) (0 : Int32))) &&& ((own_high (own_bits_r_highest ((1 : Int32) + (x0 &&& (127 : Int32))) (0 : Int32))) + (1 : Int64))) (0 : Int64)).mp q))).1) (XS.iconst X5.here hx rfl (hb hby at_83) k)) ?_
        refine own_retN X5 hx hlk (ty := .boolean) hret (by simp) (hb hby at_84) (by decide) (by decide) ?_
        exact ⟨by rw [own_f0, if_pos hc1, if_neg hc6, if_neg hc7] <;> rfl, N5⟩
  · refine own_via (T' := s₁) (g' := (mkF m 21 #[.val (.int x0), .val (.int x1), .val (.int ((1 : Int32) + (x0 &&& (127 : Int32)))), .val (.int (1 : Int32)), .unset, .unset, .unset, .unset, .unset, .unset, .unset] [(.int (1 : Int32)), (.int ((1 : Int32) + (x0 &&& (127 : Int32))))])) (fun t k => XS.ifNo X0.here hx rfl (hb hby at_10) rfl ((if0 _ _).trans (feq hc1).1) (XS.iconst X0.here hx rfl (hb hby at_13) (XS.goto X0.here hx rfl (pc0 := 14) (pc' := 18) rfl (hb hby at_14) (by decide) (by decide) (XS.istoreN X0.here hx rfl (hb hby at_18) rfl (l' := #[.val (.int x0), .val (.int x1), .val (.int ((1 : Int32) + (x0 &&& (127 : Int32)))), .val (.int (1 : Int32)), .unset, .unset, .unset, .unset, .unset, .unset, .unset]) rfl (XS.iloadN X0.here hx rfl (hb hby at_19) rfl (XS.iloadN X0.here hx rfl (hb hby at_20) rfl k)))))) ?_
    obtain ⟨v13, T13, L13, X13, hQ13, st13⟩ := own_callSt (y := (⟨"com/example/surrogate/surrogate/KeyRange", "ofBits", "(IZ)Lcom/example/surrogate/surrogate/KeyRange;"⟩ : MethodName)) (argsL := [(.int ((1 : Int32) + (x0 &&& (127 : Int32)))), (.int (1 : Int32))]) (rest := []) X0 hx hZ hown (hw _ (List.mem_of_getElem? (i := 0) rfl)) (hw _ (List.mem_of_getElem? (i := 1) rfl)) (hw _ (List.mem_of_getElem? (i := 2) rfl)) (hw _ (List.mem_of_getElem? (i := 3) rfl)) (by decide) (own_mt1 l Z a0 hw ((1 : Int32) + (x0 &&& (127 : Int32))) (1 : Int32) h0 n0 Z0) e0 (W := 0) (by decide) (by decide) (g := (mkF m 21 #[.val (.int x0), .val (.int x1), .val (.int ((1 : Int32) + (x0 &&& (127 : Int32)))), .val (.int (1 : Int32)), .unset, .unset, .unset, .unset, .unset, .unset, .unset] [(.int (1 : Int32)), (.int ((1 : Int32) + (x0 &&& (127 : Int32))))])) rfl (by rw [hml]; rfl) (lenOf own_pd1 rfl) rfl (by show 2 * 0 + _ ≤ _; exact Nat.le_of_eq rfl) (hb hby at_21) (by decide) (by decide)
    obtain ⟨r13, rfl, bd13, Nq13, K13q, G13_0, G13_1, G13_2⟩ := hQ13
    have N13 := Fr.app N0 Nq13
    have Z13 : n0 ≤ T13.heap.size := Nat.le_trans Z0 K13q.1
    have ge_r13 : n0 ≤ r13 := Nat.le_trans Z0 bd13
    refine own_via (T' := T13) (g' := (mkF m 24 #[.val (.int x0), .val (.int x1), .val (.int ((1 : Int32) + (x0 &&& (127 : Int32)))), .val (.int (1 : Int32)), .unset, .unset, .unset, .unset, .unset, .unset, .unset] [(.ref r13)])) st13 ?_
    refine own_via (T' := T13) (g' := (mkF m 28 #[.val (.int x0), .val (.int x1), .val (.int ((1 : Int32) + (x0 &&& (127 : Int32)))), .val (.int (1 : Int32)), .val (.ref r13), .unset, .unset, .unset, .unset, .unset, .unset] [(.ref r13)])) (fun t k => XS.astore X13.here hx rfl (hb hby at_24) rfl rfl (l' := #[.val (.int x0), .val (.int x1), .val (.int ((1 : Int32) + (x0 &&& (127 : Int32)))), .val (.int (1 : Int32)), .val (.ref r13), .unset, .unset, .unset, .unset, .unset, .unset]) rfl (XS.aload X13.here hx rfl (hb hby at_26) rfl rfl k)) ?_
    obtain ⟨v14, T14, L14, X14, hQ14, st14⟩ := own_callVi (y := (⟨"com/example/surrogate/surrogate/KeyRange", "highest", "()J"⟩ : MethodName)) (z := (⟨"com/example/surrogate/surrogate/KeyRange", "highest", "()J"⟩ : MethodName)) (a := r13) (C := "com/example/surrogate/surrogate/KeyRange") (argsL := []) (rest := []) X13 hx hZ hown (hw _ (List.mem_of_getElem? (i := 16) rfl)) (hw _ (List.mem_of_getElem? (i := 17) rfl)) (notFace_of_selects (args := #[]) (mvT hZ (hw _ (List.mem_of_getElem? (i := 19) rfl)))) (hw _ (List.mem_of_getElem? (i := 19) rfl)) (hw _ (List.mem_of_getElem? (i := 18) rfl)) (hw _ (List.mem_of_getElem? (i := 2) rfl)) (hw _ (List.mem_of_getElem? (i := 20) rfl)) (by decide) G13_0 (own_mt4 l Z a0 hw r13 (own_bits_r_highest ((1 : Int32) + (x0 &&& (127 : Int32))) (1 : Int32)) T13.heap G13_2) rfl (W := 0) (by decide) (by decide) (g := (mkF m 28 #[.val (.int x0), .val (.int x1), .val (.int ((1 : Int32) + (x0 &&& (127 : Int32)))), .val (.int (1 : Int32)), .val (.ref r13), .unset, .unset, .unset, .unset, .unset, .unset] [(.ref r13)])) rfl (by rw [hml]; rfl) (lenOf own_pd2 rfl) rfl (by show 2 * 0 + _ ≤ _; exact Nat.le_of_eq rfl) (hb hby at_28) (by decide) (by decide)
    obtain ⟨rfl, e14, rfl⟩ := hQ14
    have N14 := Fr.app N13 (Fr.nil n0)
    refine own_via (T' := T14) (g' := (mkF m 31 #[.val (.int x0), .val (.int x1), .val (.int ((1 : Int32) + (x0 &&& (127 : Int32)))), .val (.int (1 : Int32)), .val (.ref r13), .unset, .unset, .unset, .unset, .unset, .unset] [(.long (own_high (own_bits_r_highest ((1 : Int32) + (x0 &&& (127 : Int32))) (1 : Int32))))])) st14 ?_
    refine own_via (T' := T14) (g' := (mkF m 35 #[.val (.int x0), .val (.int x1), .val (.int ((1 : Int32) + (x0 &&& (127 : Int32)))), .val (.int (1 : Int32)), .val (.ref r13), .val (.long (own_high (own_bits_r_highest ((1 : Int32) + (x0 &&& (127 : Int32))) (1 : Int32)))), .second, .unset, .unset, .unset, .unset] [(.ref r13)])) (fun t k => XS.lstore X14.here hx rfl (hb hby at_31) rfl (l' := #[.val (.int x0), .val (.int x1), .val (.int ((1 : Int32) + (x0 &&& (127 : Int32)))), .val (.int (1 : Int32)), .val (.ref r13), .val (.long (own_high (own_bits_r_highest ((1 : Int32) + (x0 &&& (127 : Int32))) (1 : Int32)))), .second, .unset, .unset, .unset, .unset]) rfl (XS.aload X14.here hx rfl (hb hby at_33) rfl rfl k)) ?_
    obtain ⟨v15, T15, L15, X15, hQ15, st15⟩ := own_callVi (y := (⟨"com/example/surrogate/surrogate/KeyRange", "lowest", "()J"⟩ : MethodName)) (z := (⟨"com/example/surrogate/surrogate/KeyRange", "lowest", "()J"⟩ : MethodName)) (a := r13) (C := "com/example/surrogate/surrogate/KeyRange") (argsL := []) (rest := []) X14 hx hZ hown (hw _ (List.mem_of_getElem? (i := 21) rfl)) (hw _ (List.mem_of_getElem? (i := 22) rfl)) (notFace_of_selects (args := #[]) (mvT hZ (hw _ (List.mem_of_getElem? (i := 24) rfl)))) (hw _ (List.mem_of_getElem? (i := 24) rfl)) (hw _ (List.mem_of_getElem? (i := 23) rfl)) (hw _ (List.mem_of_getElem? (i := 2) rfl)) (hw _ (List.mem_of_getElem? (i := 25) rfl)) (by decide) G13_0 (own_mt5 l Z a0 hw r13 (own_bits_r_lowest ((1 : Int32) + (x0 &&& (127 : Int32))) (1 : Int32)) T13.heap G13_1) e14 (W := 0) (by decide) (by decide) (g := (mkF m 35 #[.val (.int x0), .val (.int x1), .val (.int ((1 : Int32) + (x0 &&& (127 : Int32)))), .val (.int (1 : Int32)), .val (.ref r13), .val (.long (own_high (own_bits_r_highest ((1 : Int32) + (x0 &&& (127 : Int32))) (1 : Int32)))), .second, .unset, .unset, .unset, .unset] [(.ref r13)])) rfl (by rw [hml]; rfl) (lenOf own_pd2 rfl) rfl (by show 2 * 0 + _ ≤ _; exact Nat.le_of_eq rfl) (hb hby at_35) (by decide) (by decide)
    obtain ⟨rfl, e15, rfl⟩ := hQ15
    have N15 := Fr.app N14 (Fr.nil n0)
    refine own_via (T' := T15) (g' := (mkF m 38 #[.val (.int x0), .val (.int x1), .val (.int ((1 : Int32) + (x0 &&& (127 : Int32)))), .val (.int (1 : Int32)), .val (.ref r13), .val (.long (own_high (own_bits_r_highest ((1 : Int32) + (x0 &&& (127 : Int32))) (1 : Int32)))), .second, .unset, .unset, .unset, .unset] [(.long (own_low (own_bits_r_lowest ((1 : Int32) + (x0 &&& (127 : Int32))) (1 : Int32))))])) st15 ?_
    refine own_via (T' := T15) (g' := (mkF m 41 #[.val (.int x0), .val (.int x1), .val (.int ((1 : Int32) + (x0 &&& (127 : Int32)))), .val (.int (1 : Int32)), .val (.ref r13), .val (.long (own_high (own_bits_r_highest ((1 : Int32) + (x0 &&& (127 : Int32))) (1 : Int32)))), .second, .val (.long (own_low (own_bits_r_lowest ((1 : Int32) + (x0 &&& (127 : Int32))) (1 : Int32)))), .second, .unset, .unset] [(.int (1 : Int32))])) (fun t k => XS.lstore X15.here hx rfl (hb hby at_38) rfl (l' := #[.val (.int x0), .val (.int x1), .val (.int ((1 : Int32) + (x0 &&& (127 : Int32)))), .val (.int (1 : Int32)), .val (.ref r13), .val (.long (own_high (own_bits_r_highest ((1 : Int32) + (x0 &&& (127 : Int32))) (1 : Int32)))), .second, .val (.long (own_low (own_bits_r_lowest ((1 : Int32) + (x0 &&& (127 : Int32))) (1 : Int32)))), .second, .unset, .unset]) rfl (XS.iloadN X15.here hx rfl (hb hby at_40) rfl k)) ?_
    refine own_via (T' := T15) (g' := (mkF m 57 #[.val (.int x0), .val (.int x1), .val (.int ((1 : Int32) + (x0 &&& (127 : Int32)))), .val (.int (1 : Int32)), .val (.ref r13), .val (.long (own_high (own_bits_r_highest ((1 : Int32) + (x0 &&& (127 : Int32))) (1 : Int32)))), .second, .val (.long (own_low (own_bits_r_lowest ((1 : Int32) + (x0 &&& (127 : Int32))) (1 : Int32)))), .second, .val (.int (((1 : Int32) + (x0 &&& (127 : Int32))) - (1 : Int32))), .unset] [(.int (63 : Int32)), (.int (((1 : Int32) + (x0 &&& (127 : Int32))) - (1 : Int32)))])) (fun t k => XS.ifNo X15.here hx rfl (hb hby at_41) rfl ((if0 _ _).trans (feq (by decide : ¬ ((1 : Int32) = (0 : Int32)))).1) (XS.iloadN X15.here hx rfl (hb hby at_44) rfl (XS.iconst X15.here hx rfl (hb hby at_45) (XS.isub X15.here hx rfl (hb hby at_46) rfl (XS.goto X15.here hx rfl (pc0 := 47) (pc' := 51) rfl (hb hby at_47) (by decide) (by decide) (XS.istore X15.here hx rfl (hb hby at_51) rfl (l' := #[.val (.int x0), .val (.int x1), .val (.int ((1 : Int32) + (x0 &&& (127 : Int32)))), .val (.int (1 : Int32)), .val (.ref r13), .val (.long (own_high (own_bits_r_highest ((1 : Int32) + (x0 &&& (127 : Int32))) (1 : Int32)))), .second, .val (.long (own_low (own_bits_r_lowest ((1 : Int32) + (x0 &&& (127 : Int32))) (1 : Int32)))), .second, .val (.int (((1 : Int32) + (x0 &&& (127 : Int32))) - (1 : Int32))), .unset]) rfl (XS.iload X15.here hx rfl (hb hby at_53) rfl (XS.bipush X15.here hx rfl (hb hby at_55) k)))))))) ?_
    obtain ⟨v16, T16, L16, X16, hQ16, st16⟩ := own_callSt (y := (⟨"java/lang/Math", "min", "(II)I"⟩ : MethodName)) (argsL := [(.int (((1 : Int32) + (x0 &&& (127 : Int32))) - (1 : Int32))), (.int (63 : Int32))]) (rest := []) X15 hx hZ hown (hw _ (List.mem_of_getElem? (i := 26) rfl)) (hw _ (List.mem_of_getElem? (i := 27) rfl)) (hw _ (List.mem_of_getElem? (i := 28) rfl)) (hw _ (List.mem_of_getElem? (i := 29) rfl)) (by decide) (own_mt6 l Z a0 hw (((1 : Int32) + (x0 &&& (127 : Int32))) - (1 : Int32)) (63 : Int32) T13.heap) e15 (W := 0) (by decide) (by decide) (g := (mkF m 57 #[.val (.int x0), .val (.int x1), .val (.int ((1 : Int32) + (x0 &&& (127 : Int32)))), .val (.int (1 : Int32)), .val (.ref r13), .val (.long (own_high (own_bits_r_highest ((1 : Int32) + (x0 &&& (127 : Int32))) (1 : Int32)))), .second, .val (.long (own_low (own_bits_r_lowest ((1 : Int32) + (x0 &&& (127 : Int32))) (1 : Int32)))), .second, .val (.int (((1 : Int32) + (x0 &&& (127 : Int32))) - (1 : Int32))), .unset] [(.int (63 : Int32)), (.int (((1 : Int32) + (x0 &&& (127 : Int32))) - (1 : Int32)))])) rfl (by rw [hml]; rfl) (lenOf own_pd3 rfl) rfl (by show 2 * 0 + _ ≤ _; exact Nat.le_of_eq rfl) (hb hby at_57) (by decide) (by decide)
    obtain ⟨rfl, e16, rfl⟩ := hQ16
    have N16 := Fr.app N15 (Fr.nil n0)
    refine own_via (T' := T16) (g' := (mkF m 60 #[.val (.int x0), .val (.int x1), .val (.int ((1 : Int32) + (x0 &&& (127 : Int32)))), .val (.int (1 : Int32)), .val (.ref r13), .val (.long (own_high (own_bits_r_highest ((1 : Int32) + (x0 &&& (127 : Int32))) (1 : Int32)))), .second, .val (.long (own_low (own_bits_r_lowest ((1 : Int32) + (x0 &&& (127 : Int32))) (1 : Int32)))), .second, .val (.int (((1 : Int32) + (x0 &&& (127 : Int32))) - (1 : Int32))), .unset] [(.int (own_min (((1 : Int32) + (x0 &&& (127 : Int32))) - (1 : Int32)) (63 : Int32)))])) st16 ?_
    refine own_via (T' := T16) (g' := (mkF m 66 #[.val (.int x0), .val (.int x1), .val (.int ((1 : Int32) + (x0 &&& (127 : Int32)))), .val (.int (1 : Int32)), .val (.ref r13), .val (.long (own_high (own_bits_r_highest ((1 : Int32) + (x0 &&& (127 : Int32))) (1 : Int32)))), .second, .val (.long (own_low (own_bits_r_lowest ((1 : Int32) + (x0 &&& (127 : Int32))) (1 : Int32)))), .second, .val (.int (((1 : Int32) + (x0 &&& (127 : Int32))) - (1 : Int32))), .val (.int (own_min (((1 : Int32) + (x0 &&& (127 : Int32))) - (1 : Int32)) (63 : Int32)))] [(.int (lcmpW (own_high (own_bits_r_highest ((1 : Int32) + (x0 &&& (127 : Int32))) (1 : Int32))) (0 : Int64)))])) (fun t k => XS.istore X16.here hx rfl (hb hby at_60) rfl (l' := #[.val (.int x0), .val (.int x1), .val (.int ((1 : Int32) + (x0 &&& (127 : Int32)))), .val (.int (1 : Int32)), .val (.ref r13), .val (.long (own_high (own_bits_r_highest ((1 : Int32) + (x0 &&& (127 : Int32))) (1 : Int32)))), .second, .val (.long (own_low (own_bits_r_lowest ((1 : Int32) + (x0 &&& (127 : Int32))) (1 : Int32)))), .second, .val (.int (((1 : Int32) + (x0 &&& (127 : Int32))) - (1 : Int32))), .val (.int (own_min (((1 : Int32) + (x0 &&& (127 : Int32))) - (1 : Int32)) (63 : Int32)))]) rfl (XS.lload X16.here hx rfl (hb hby at_62) rfl (XS.lconst X16.here hx rfl (hb hby at_64) (XS.lcmp X16.here hx rfl (hb hby at_65) rfl k)))) ?_
    by_cases hc17 : (own_high (own_bits_r_highest ((1 : Int32) + (x0 &&& (127 : Int32))) (1 : Int32))) < (0 : Int64)
    · refine own_via (T' := T16) (g' := (mkF m 70 #[.val (.int x0), .val (.int x1), .val (.int ((1 : Int32) + (x0 &&& (127 : Int32)))), .val (.int (1 : Int32)), .val (.ref r13), .val (.long (own_high (own_bits_r_highest ((1 : Int32) + (x0 &&& (127 : Int32))) (1 : Int32)))), .second, .val (.long (own_low (own_bits_r_lowest ((1 : Int32) + (x0 &&& (127 : Int32))) (1 : Int32)))), .second, .val (.int (((1 : Int32) + (x0 &&& (127 : Int32))) - (1 : Int32))), .val (.int (own_min (((1 : Int32) + (x0 &&& (127 : Int32))) - (1 : Int32)) (63 : Int32)))] [(.int (0 : Int32))])) (fun t k => XS.ifNo X16.here hx rfl (hb hby at_66) rfl ((if0 _ _).trans (tlt ((lw_lt (own_high (own_bits_r_highest ((1 : Int32) + (x0 &&& (127 : Int32))) (1 : Int32))) (0 : Int64)).mpr hc17)).2.1) (XS.iconst X16.here hx rfl (hb hby at_69) k)) ?_
      refine own_retN X16 hx hlk (ty := .boolean) hret (by simp) (hb hby at_70) (by decide) (by decide) ?_
      exact ⟨by rw [own_f0, if_neg hc1, if_pos hc17] <;> rfl, N16⟩
    · refine own_via (T' := T16) (g' := (mkF m 80 #[.val (.int x0), .val (.int x1), .val (.int ((1 : Int32) + (x0 &&& (127 : Int32)))), .val (.int (1 : Int32)), .val (.ref r13), .val (.long (own_high (own_bits_r_highest ((1 : Int32) + (x0 &&& (127 : Int32))) (1 : Int32)))), .second, .val (.long (own_low (own_bits_r_lowest ((1 : Int32) + (x0 &&& (127 : Int32))) (1 : Int32)))), .second, .val (.int (((1 : Int32) + (x0 &&& (127 : Int32))) - (1 : Int32))), .val (.int (own_min (((1 : Int32) + (x0 &&& (127 : Int32))) - (1 : Int32)) (63 : Int32)))] [(.int (lcmpW ((own_high (own_bits_r_highest ((1 : Int32) + (x0 &&& (127 : Int32))) (1 : Int32))) &&& ((own_high (own_bits_r_highest ((1 : Int32) + (x0 &&& (127 : Int32))) (1 : Int32))) + (1 : Int64))) (0 : Int64)))])) (fun t k => XS.ifYes X16.here hx rfl (pc0 := 66) (pc' := 71) rfl (hb hby at_66) rfl ((if0 _ _).trans (flt (fun q => hc17 ((lw_lt (own_high (own_bits_r_highest ((1 : Int32) + (x0 &&& (127 : Int32))) (1 : Int32))) (0 : Int64)).mp q))).2.1) (by decide) (by decide) (XS.lload X16.here hx rfl (hb hby at_71) rfl (XS.lload X16.here hx rfl (hb hby at_73) rfl (XS.lconst X16.here hx rfl (hb hby at_75) (XS.ladd X16.here hx rfl (hb hby at_76) rfl (XS.land X16.here hx rfl (hb hby at_77) rfl (XS.lconst X16.here hx rfl (hb hby at_78) (XS.lcmp X16.here hx rfl (hb hby at_79) rfl k)))))))) ?_
      by_cases hc18 : ((own_high (own_bits_r_highest ((1 : Int32) + (x0 &&& (127 : Int32))) (1 : Int32))) &&& ((own_high (own_bits_r_highest ((1 : Int32) + (x0 &&& (127 : Int32))) (1 : Int32))) + (1 : Int64))) = (0 : Int64)
      · refine own_via (T' := T16) (g' := (mkF m 87 #[.val (.int x0), .val (.int x1), .val (.int ((1 : Int32) + (x0 &&& (127 : Int32)))), .val (.int (1 : Int32)), .val (.ref r13), .val (.long (own_high (own_bits_r_highest ((1 : Int32) + (x0 &&& (127 : Int32))) (1 : Int32)))), .second, .val (.long (own_low (own_bits_r_lowest ((1 : Int32) + (x0 &&& (127 : Int32))) (1 : Int32)))), .second, .val (.int (((1 : Int32) + (x0 &&& (127 : Int32))) - (1 : Int32))), .val (.int (own_min (((1 : Int32) + (x0 &&& (127 : Int32))) - (1 : Int32)) (63 : Int32)))] [(.int (own_min (((1 : Int32) + (x0 &&& (127 : Int32))) - (1 : Int32)) (63 : Int32)))])) (fun t k => XS.ifYes X16.here hx rfl (pc0 := 80) (pc' := 85) rfl (hb hby at_80) rfl ((if0 _ _).trans (teq ((lw_eq ((own_high (own_bits_r_highest ((1 : Int32) + (x0 &&& (127 : Int32))) (1 : Int32))) &&& ((own_high (own_bits_r_highest ((1 : Int32) + (x0 &&& (127 : Int32))) (1 : Int32))) + (1 : Int64))) (0 : Int64)).mpr hc18)).1) (by decide) (by decide) (XS.iload X16.here hx rfl (hb hby at_85) rfl k)) ?_
        by_cases hc19 : (own_min (((1 : Int32) + (x0 &&& (127 : Int32))) - (1 : Int32)) (63 : Int32)) = (0 : Int32)
        · refine own_via (T' := T16) (g' := (mkF m 94 #[.val (.int x0), .val (.int x1), .val (.int ((1 : Int32) + (x0 &&& (127 : Int32)))), .val (.int (1 : Int32)), .val (.ref r13), .val (.long (own_high (own_bits_r_highest ((1 : Int32) + (x0 &&& (127 : Int32))) (1 : Int32)))), .second, .val (.long (own_low (own_bits_r_lowest ((1 : Int32) + (x0 &&& (127 : Int32))) (1 : Int32)))), .second, .val (.int (((1 : Int32) + (x0 &&& (127 : Int32))) - (1 : Int32))), .val (.int (own_min (((1 : Int32) + (x0 &&& (127 : Int32))) - (1 : Int32)) (63 : Int32)))] [(.int (lcmpW (own_high (own_bits_r_highest ((1 : Int32) + (x0 &&& (127 : Int32))) (1 : Int32))) (0 : Int64)))])) (fun t k => XS.ifNo X16.here hx rfl (hb hby at_87) rfl ((if0 _ _).trans (teq hc19).2) (XS.lload X16.here hx rfl (hb hby at_90) rfl (XS.lconst X16.here hx rfl (hb hby at_92) (XS.lcmp X16.here hx rfl (hb hby at_93) rfl k)))) ?_
          by_cases hc20 : (own_high (own_bits_r_highest ((1 : Int32) + (x0 &&& (127 : Int32))) (1 : Int32))) = (0 : Int64)
          · refine own_via (T' := T16) (g' := (mkF m 114 #[.val (.int x0), .val (.int x1), .val (.int ((1 : Int32) + (x0 &&& (127 : Int32)))), .val (.int (1 : Int32)), .val (.ref r13), .val (.long (own_high (own_bits_r_highest ((1 : Int32) + (x0 &&& (127 : Int32))) (1 : Int32)))), .second, .val (.long (own_low (own_bits_r_lowest ((1 : Int32) + (x0 &&& (127 : Int32))) (1 : Int32)))), .second, .val (.int (((1 : Int32) + (x0 &&& (127 : Int32))) - (1 : Int32))), .val (.int (own_min (((1 : Int32) + (x0 &&& (127 : Int32))) - (1 : Int32)) (63 : Int32)))] [(.int (1 : Int32))])) (fun t k => XS.ifYes X16.here hx rfl (pc0 := 94) (pc' := 113) rfl (hb hby at_94) rfl ((if0 _ _).trans (teq ((lw_eq (own_high (own_bits_r_highest ((1 : Int32) + (x0 &&& (127 : Int32))) (1 : Int32))) (0 : Int64)).mpr hc20)).1) (by decide) (by decide) (XS.iloadN X16.here hx rfl (hb hby at_113) rfl k)) ?_
            refine own_via (T' := T16) (g' := (mkF m 121 #[.val (.int x0), .val (.int x1), .val (.int ((1 : Int32) + (x0 &&& (127 : Int32)))), .val (.int (1 : Int32)), .val (.ref r13), .val (.long (own_high (own_bits_r_highest ((1 : Int32) + (x0 &&& (127 : Int32))) (1 : Int32)))), .second, .val (.long (own_low (own_bits_r_lowest ((1 : Int32) + (x0 &&& (127 : Int32))) (1 : Int32)))), .second, .val (.int (((1 : Int32) + (x0 &&& (127 : Int32))) - (1 : Int32))), .val (.int (own_min (((1 : Int32) + (x0 &&& (127 : Int32))) - (1 : Int32)) (63 : Int32)))] [(.long (own_high (own_bits_r_highest ((1 : Int32) + (x0 &&& (127 : Int32))) (1 : Int32)))), (.long (own_low (own_bits_r_lowest ((1 : Int32) + (x0 &&& (127 : Int32))) (1 : Int32))))])) (fun t k => XS.ifNo X16.here hx rfl (hb hby at_114) rfl ((if0 _ _).trans (feq (by decide : ¬ ((1 : Int32) = (0 : Int32)))).1) (XS.lload X16.here hx rfl (hb hby at_117) rfl (XS.lload X16.here hx rfl (hb hby at_119) rfl k))) ?_
            refine own_via (T' := T16) (g' := (mkF m 124 #[.val (.int x0), .val (.int x1), .val (.int ((1 : Int32) + (x0 &&& (127 : Int32)))), .val (.int (1 : Int32)), .val (.ref r13), .val (.long (own_high (own_bits_r_highest ((1 : Int32) + (x0 &&& (127 : Int32))) (1 : Int32)))), .second, .val (.long (own_low (own_bits_r_lowest ((1 : Int32) + (x0 &&& (127 : Int32))) (1 : Int32)))), .second, .val (.int (((1 : Int32) + (x0 &&& (127 : Int32))) - (1 : Int32))), .val (.int (own_min (((1 : Int32) + (x0 &&& (127 : Int32))) - (1 : Int32)) (63 : Int32)))] [(.long (-1 : Int64)), (.long (own_high (own_bits_r_highest ((1 : Int32) + (x0 &&& (127 : Int32))) (1 : Int32)))), (.long (own_low (own_bits_r_lowest ((1 : Int32) + (x0 &&& (127 : Int32))) (1 : Int32))))])) (X16.ldc2Long hx hown (mvT hZ (hw _ (List.mem_of_getElem? (i := 30) rfl))) (g := (mkF m 121 #[.val (.int x0), .val (.int x1), .val (.int ((1 : Int32) + (x0 &&& (127 : Int32)))), .val (.int (1 : Int32)), .val (.ref r13), .val (.long (own_high (own_bits_r_highest ((1 : Int32) + (x0 &&& (127 : Int32))) (1 : Int32)))), .second, .val (.long (own_low (own_bits_r_lowest ((1 : Int32) + (x0 &&& (127 : Int32))) (1 : Int32)))), .second, .val (.int (((1 : Int32) + (x0 &&& (127 : Int32))) - (1 : Int32))), .val (.int (own_min (((1 : Int32) + (x0 &&& (127 : Int32))) - (1 : Int32)) (63 : Int32)))] [(.long (own_high (own_bits_r_highest ((1 : Int32) + (x0 &&& (127 : Int32))) (1 : Int32)))), (.long (own_low (own_bits_r_lowest ((1 : Int32) + (x0 &&& (127 : Int32))) (1 : Int32))))])) rfl (hb hby at_121)) ?_
            refine own_via (T' := T16) (g' := (mkF m 126 #[.val (.int x0), .val (.int x1), .val (.int ((1 : Int32) + (x0 &&& (127 : Int32)))), .val (.int (1 : Int32)), .val (.ref r13), .val (.long (own_high (own_bits_r_highest ((1 : Int32) + (x0 &&& (127 : Int32))) (1 : Int32)))), .second, .val (.long (own_low (own_bits_r_lowest ((1 : Int32) + (x0 &&& (127 : Int32))) (1 : Int32)))), .second, .val (.int (((1 : Int32) + (x0 &&& (127 : Int32))) - (1 : Int32))), .val (.int (own_min (((1 : Int32) + (x0 &&& (127 : Int32))) - (1 : Int32)) (63 : Int32)))] [(.int (lcmpW (own_low (own_bits_r_lowest ((1 : Int32) + (x0 &&& (127 : Int32))) (1 : Int32))) ((own_high (own_bits_r_highest ((1 : Int32) + (x0 &&& (127 : Int32))) (1 : Int32))) ^^^ (-1 : Int64))))])) (fun t k => XS.lxor X16.here hx rfl (hb hby at_124) rfl (XS.lcmp X16.here hx rfl (hb hby at_125) rfl k)) ?_
            by_cases hc21 : (own_low (own_bits_r_lowest ((1 : Int32) + (x0 &&& (127 : Int32))) (1 : Int32))) = ((own_high (own_bits_r_highest ((1 : Int32) + (x0 &&& (127 : Int32))) (1 : Int32))) ^^^ (-1 : Int64))
            · refine own_via (T' := T16) (g' := (mkF m 134 #[.val (.int x0), .val (.int x1), .val (.int ((1 : Int32) + (x0 &&& (127 : Int32)))), .val (.int (1 : Int32)), .val (.ref r13), .val (.long (own_high (own_bits_r_highest ((1 : Int32) + (x0 &&& (127 : Int32))) (1 : Int32)))), .second, .val (.long (own_low (own_bits_r_lowest ((1 : Int32) + (x0 &&& (127 : Int32))) (1 : Int32)))), .second, .val (.int (((1 : Int32) + (x0 &&& (127 : Int32))) - (1 : Int32))), .val (.int (own_min (((1 : Int32) + (x0 &&& (127 : Int32))) - (1 : Int32)) (63 : Int32)))] [(.int (1 : Int32))])) (fun t k => XS.ifNo X16.here hx rfl (hb hby at_126) rfl ((if0 _ _).trans (teq ((lw_eq (own_low (own_bits_r_lowest ((1 : Int32) + (x0 &&& (127 : Int32))) (1 : Int32))) ((own_high (own_bits_r_highest ((1 : Int32) + (x0 &&& (127 : Int32))) (1 : Int32))) ^^^ (-1 : Int64))).mpr hc21)).2) (XS.iconst X16.here hx rfl (hb hby at_129) (XS.goto X16.here hx rfl (pc0 := 130) (pc' := 134) rfl (hb hby at_130) (by decide) (by decide) k))) ?_
              refine own_retN X16 hx hlk (ty := .boolean) hret (by simp) (hb hby at_134) (by decide) (by decide) ?_
              exact ⟨by rw [own_f0, if_neg hc1, if_neg hc17, if_pos hc18, if_pos hc19, if_pos hc20, if_pos hc21] <;> rfl, N16⟩
            · refine own_via (T' := T16) (g' := (mkF m 134 #[.val (.int x0), .val (.int x1), .val (.int ((1 : Int32) + (x0 &&& (127 : Int32)))), .val (.int (1 : Int32)), .val (.ref r13), .val (.long (own_high (own_bits_r_highest ((1 : Int32) + (x0 &&& (127 : Int32))) (1 : Int32)))), .second, .val (.long (own_low (own_bits_r_lowest ((1 : Int32) + (x0 &&& (127 : Int32))) (1 : Int32)))), .second, .val (.int (((1 : Int32) + (x0 &&& (127 : Int32))) - (1 : Int32))), .val (.int (own_min (((1 : Int32) + (x0 &&& (127 : Int32))) - (1 : Int32)) (63 : Int32)))] [(.int (0 : Int32))])) (fun t k => XS.ifYes X16.here hx rfl (pc0 := 126) (pc' := 133) rfl (hb hby at_126) rfl ((if0 _ _).trans (feq (fun q => hc21 ((lw_eq (own_low (own_bits_r_lowest ((1 : Int32) + (x0 &&& (127 : Int32))) (1 : Int32))) ((own_high (own_bits_r_highest ((1 : Int32) + (x0 &&& (127 : Int32))) (1 : Int32))) ^^^ (-1 : Int64))).mp q))).2) (by decide) (by decide) (XS.iconst X16.here hx rfl (hb hby at_133) k)) ?_
              refine own_retN X16 hx hlk (ty := .boolean) hret (by simp) (hb hby at_134) (by decide) (by decide) ?_
              exact ⟨by rw [own_f0, if_neg hc1, if_neg hc17, if_pos hc18, if_pos hc19, if_pos hc20, if_neg hc21] <;> rfl, N16⟩
          · refine own_via (T' := T16) (g' := (mkF m 98 #[.val (.int x0), .val (.int x1), .val (.int ((1 : Int32) + (x0 &&& (127 : Int32)))), .val (.int (1 : Int32)), .val (.ref r13), .val (.long (own_high (own_bits_r_highest ((1 : Int32) + (x0 &&& (127 : Int32))) (1 : Int32)))), .second, .val (.long (own_low (own_bits_r_lowest ((1 : Int32) + (x0 &&& (127 : Int32))) (1 : Int32)))), .second, .val (.int (((1 : Int32) + (x0 &&& (127 : Int32))) - (1 : Int32))), .val (.int (own_min (((1 : Int32) + (x0 &&& (127 : Int32))) - (1 : Int32)) (63 : Int32)))] [(.int (0 : Int32))])) (fun t k => XS.ifNo X16.here hx rfl (hb hby at_94) rfl ((if0 _ _).trans (feq (fun q => hc20 ((lw_eq (own_high (own_bits_r_highest ((1 : Int32) + (x0 &&& (127 : Int32))) (1 : Int32))) (0 : Int64)).mp q))).1) (XS.iconst X16.here hx rfl (hb hby at_97) k)) ?_
            refine own_retN X16 hx hlk (ty := .boolean) hret (by simp) (hb hby at_98) (by decide) (by decide) ?_
            exact ⟨by rw [own_f0, if_neg hc1, if_neg hc17, if_pos hc18, if_pos hc19, if_neg hc20] <;> rfl, N16⟩
        · refine own_via (T' := T16) (g' := (mkF m 108 #[.val (.int x0), .val (.int x1), .val (.int ((1 : Int32) + (x0 &&& (127 : Int32)))), .val (.int (1 : Int32)), .val (.ref r13), .val (.long (own_high (own_bits_r_highest ((1 : Int32) + (x0 &&& (127 : Int32))) (1 : Int32)))), .second, .val (.long (own_low (own_bits_r_lowest ((1 : Int32) + (x0 &&& (127 : Int32))) (1 : Int32)))), .second, .val (.int (((1 : Int32) + (x0 &&& (127 : Int32))) - (1 : Int32))), .val (.int (own_min (((1 : Int32) + (x0 &&& (127 : Int32))) - (1 : Int32)) (63 : Int32)))] [(.int (lcmpW (((own_high (own_bits_r_highest ((1 : Int32) + (x0 &&& (127 : Int32))) (1 : Int32))).toUInt64 >>> (((own_min (((1 : Int32) + (x0 &&& (127 : Int32))) - (1 : Int32)) (63 : Int32)) - (1 : Int32)) &&& 0x3f).toInt64.toUInt64).toInt64) (1 : Int64)))])) (fun t k => XS.ifYes X16.here hx rfl (pc0 := 87) (pc' := 99) rfl (hb hby at_87) rfl ((if0 _ _).trans (feq hc19).2) (by decide) (by decide) (XS.lload X16.here hx rfl (hb hby at_99) rfl (XS.iload X16.here hx rfl (hb hby at_101) rfl (XS.iconst X16.here hx rfl (hb hby at_103) (XS.isub X16.here hx rfl (hb hby at_104) rfl (XS.lushr X16.here hx rfl (hb hby at_105) rfl (XS.lconst X16.here hx rfl (hb hby at_106) (XS.lcmp X16.here hx rfl (hb hby at_107) rfl k)))))))) ?_
          by_cases hc22 : (((own_high (own_bits_r_highest ((1 : Int32) + (x0 &&& (127 : Int32))) (1 : Int32))).toUInt64 >>> (((own_min (((1 : Int32) + (x0 &&& (127 : Int32))) - (1 : Int32)) (63 : Int32)) - (1 : Int32)) &&& 0x3f).toInt64.toUInt64).toInt64) = (1 : Int64)
          · refine own_via (T' := T16) (g' := (mkF m 114 #[.val (.int x0), .val (.int x1), .val (.int ((1 : Int32) + (x0 &&& (127 : Int32)))), .val (.int (1 : Int32)), .val (.ref r13), .val (.long (own_high (own_bits_r_highest ((1 : Int32) + (x0 &&& (127 : Int32))) (1 : Int32)))), .second, .val (.long (own_low (own_bits_r_lowest ((1 : Int32) + (x0 &&& (127 : Int32))) (1 : Int32)))), .second, .val (.int (((1 : Int32) + (x0 &&& (127 : Int32))) - (1 : Int32))), .val (.int (own_min (((1 : Int32) + (x0 &&& (127 : Int32))) - (1 : Int32)) (63 : Int32)))] [(.int (1 : Int32))])) (fun t k => XS.ifYes X16.here hx rfl (pc0 := 108) (pc' := 113) rfl (hb hby at_108) rfl ((if0 _ _).trans (teq ((lw_eq (((own_high (own_bits_r_highest ((1 : Int32) + (x0 &&& (127 : Int32))) (1 : Int32))).toUInt64 >>> (((own_min (((1 : Int32) + (x0 &&& (127 : Int32))) - (1 : Int32)) (63 : Int32)) - (1 : Int32)) &&& 0x3f).toInt64.toUInt64).toInt64) (1 : Int64)).mpr hc22)).1) (by decide) (by decide) (XS.iloadN X16.here hx rfl (hb hby at_113) rfl k)) ?_
            refine own_via (T' := T16) (g' := (mkF m 121 #[.val (.int x0), .val (.int x1), .val (.int ((1 : Int32) + (x0 &&& (127 : Int32)))), .val (.int (1 : Int32)), .val (.ref r13), .val (.long (own_high (own_bits_r_highest ((1 : Int32) + (x0 &&& (127 : Int32))) (1 : Int32)))), .second, .val (.long (own_low (own_bits_r_lowest ((1 : Int32) + (x0 &&& (127 : Int32))) (1 : Int32)))), .second, .val (.int (((1 : Int32) + (x0 &&& (127 : Int32))) - (1 : Int32))), .val (.int (own_min (((1 : Int32) + (x0 &&& (127 : Int32))) - (1 : Int32)) (63 : Int32)))] [(.long (own_high (own_bits_r_highest ((1 : Int32) + (x0 &&& (127 : Int32))) (1 : Int32)))), (.long (own_low (own_bits_r_lowest ((1 : Int32) + (x0 &&& (127 : Int32))) (1 : Int32))))])) (fun t k => XS.ifNo X16.here hx rfl (hb hby at_114) rfl ((if0 _ _).trans (feq (by decide : ¬ ((1 : Int32) = (0 : Int32)))).1) (XS.lload X16.here hx rfl (hb hby at_117) rfl (XS.lload X16.here hx rfl (hb hby at_119) rfl k))) ?_
            refine own_via (T' := T16) (g' := (mkF m 124 #[.val (.int x0), .val (.int x1), .val (.int ((1 : Int32) + (x0 &&& (127 : Int32)))), .val (.int (1 : Int32)), .val (.ref r13), .val (.long (own_high (own_bits_r_highest ((1 : Int32) + (x0 &&& (127 : Int32))) (1 : Int32)))), .second, .val (.long (own_low (own_bits_r_lowest ((1 : Int32) + (x0 &&& (127 : Int32))) (1 : Int32)))), .second, .val (.int (((1 : Int32) + (x0 &&& (127 : Int32))) - (1 : Int32))), .val (.int (own_min (((1 : Int32) + (x0 &&& (127 : Int32))) - (1 : Int32)) (63 : Int32)))] [(.long (-1 : Int64)), (.long (own_high (own_bits_r_highest ((1 : Int32) + (x0 &&& (127 : Int32))) (1 : Int32)))), (.long (own_low (own_bits_r_lowest ((1 : Int32) + (x0 &&& (127 : Int32))) (1 : Int32))))])) (X16.ldc2Long hx hown (mvT hZ (hw _ (List.mem_of_getElem? (i := 30) rfl))) (g := (mkF m 121 #[.val (.int x0), .val (.int x1), .val (.int ((1 : Int32) + (x0 &&& (127 : Int32)))), .val (.int (1 : Int32)), .val (.ref r13), .val (.long (own_high (own_bits_r_highest ((1 : Int32) + (x0 &&& (127 : Int32))) (1 : Int32)))), .second, .val (.long (own_low (own_bits_r_lowest ((1 : Int32) + (x0 &&& (127 : Int32))) (1 : Int32)))), .second, .val (.int (((1 : Int32) + (x0 &&& (127 : Int32))) - (1 : Int32))), .val (.int (own_min (((1 : Int32) + (x0 &&& (127 : Int32))) - (1 : Int32)) (63 : Int32)))] [(.long (own_high (own_bits_r_highest ((1 : Int32) + (x0 &&& (127 : Int32))) (1 : Int32)))), (.long (own_low (own_bits_r_lowest ((1 : Int32) + (x0 &&& (127 : Int32))) (1 : Int32))))])) rfl (hb hby at_121)) ?_
            refine own_via (T' := T16) (g' := (mkF m 126 #[.val (.int x0), .val (.int x1), .val (.int ((1 : Int32) + (x0 &&& (127 : Int32)))), .val (.int (1 : Int32)), .val (.ref r13), .val (.long (own_high (own_bits_r_highest ((1 : Int32) + (x0 &&& (127 : Int32))) (1 : Int32)))), .second, .val (.long (own_low (own_bits_r_lowest ((1 : Int32) + (x0 &&& (127 : Int32))) (1 : Int32)))), .second, .val (.int (((1 : Int32) + (x0 &&& (127 : Int32))) - (1 : Int32))), .val (.int (own_min (((1 : Int32) + (x0 &&& (127 : Int32))) - (1 : Int32)) (63 : Int32)))] [(.int (lcmpW (own_low (own_bits_r_lowest ((1 : Int32) + (x0 &&& (127 : Int32))) (1 : Int32))) ((own_high (own_bits_r_highest ((1 : Int32) + (x0 &&& (127 : Int32))) (1 : Int32))) ^^^ (-1 : Int64))))])) (fun t k => XS.lxor X16.here hx rfl (hb hby at_124) rfl (XS.lcmp X16.here hx rfl (hb hby at_125) rfl k)) ?_
            by_cases hc23 : (own_low (own_bits_r_lowest ((1 : Int32) + (x0 &&& (127 : Int32))) (1 : Int32))) = ((own_high (own_bits_r_highest ((1 : Int32) + (x0 &&& (127 : Int32))) (1 : Int32))) ^^^ (-1 : Int64))
            · refine own_via (T' := T16) (g' := (mkF m 134 #[.val (.int x0), .val (.int x1), .val (.int ((1 : Int32) + (x0 &&& (127 : Int32)))), .val (.int (1 : Int32)), .val (.ref r13), .val (.long (own_high (own_bits_r_highest ((1 : Int32) + (x0 &&& (127 : Int32))) (1 : Int32)))), .second, .val (.long (own_low (own_bits_r_lowest ((1 : Int32) + (x0 &&& (127 : Int32))) (1 : Int32)))), .second, .val (.int (((1 : Int32) + (x0 &&& (127 : Int32))) - (1 : Int32))), .val (.int (own_min (((1 : Int32) + (x0 &&& (127 : Int32))) - (1 : Int32)) (63 : Int32)))] [(.int (1 : Int32))])) (fun t k => XS.ifNo X16.here hx rfl (hb hby at_126) rfl ((if0 _ _).trans (teq ((lw_eq (own_low (own_bits_r_lowest ((1 : Int32) + (x0 &&& (127 : Int32))) (1 : Int32))) ((own_high (own_bits_r_highest ((1 : Int32) + (x0 &&& (127 : Int32))) (1 : Int32))) ^^^ (-1 : Int64))).mpr hc23)).2) (XS.iconst X16.here hx rfl (hb hby at_129) (XS.goto X16.here hx rfl (pc0 := 130) (pc' := 134) rfl (hb hby at_130) (by decide) (by decide) k))) ?_
              refine own_retN X16 hx hlk (ty := .boolean) hret (by simp) (hb hby at_134) (by decide) (by decide) ?_
              exact ⟨by rw [own_f0, if_neg hc1, if_neg hc17, if_pos hc18, if_neg hc19, if_pos hc22, if_pos hc23] <;> rfl, N16⟩
            · refine own_via (T' := T16) (g' := (mkF m 134 #[.val (.int x0), .val (.int x1), .val (.int ((1 : Int32) + (x0 &&& (127 : Int32)))), .val (.int (1 : Int32)), .val (.ref r13), .val (.long (own_high (own_bits_r_highest ((1 : Int32) + (x0 &&& (127 : Int32))) (1 : Int32)))), .second, .val (.long (own_low (own_bits_r_lowest ((1 : Int32) + (x0 &&& (127 : Int32))) (1 : Int32)))), .second, .val (.int (((1 : Int32) + (x0 &&& (127 : Int32))) - (1 : Int32))), .val (.int (own_min (((1 : Int32) + (x0 &&& (127 : Int32))) - (1 : Int32)) (63 : Int32)))] [(.int (0 : Int32))])) (fun t k => XS.ifYes X16.here hx rfl (pc0 := 126) (pc' := 133) rfl (hb hby at_126) rfl ((if0 _ _).trans (feq (fun q => hc23 ((lw_eq (own_low (own_bits_r_lowest ((1 : Int32) + (x0 &&& (127 : Int32))) (1 : Int32))) ((own_high (own_bits_r_highest ((1 : Int32) + (x0 &&& (127 : Int32))) (1 : Int32))) ^^^ (-1 : Int64))).mp q))).2) (by decide) (by decide) (XS.iconst X16.here hx rfl (hb hby at_133) k)) ?_
              refine own_retN X16 hx hlk (ty := .boolean) hret (by simp) (hb hby at_134) (by decide) (by decide) ?_
              exact ⟨by rw [own_f0, if_neg hc1, if_neg hc17, if_pos hc18, if_neg hc19, if_pos hc22, if_neg hc23] <;> rfl, N16⟩
          · refine own_via (T' := T16) (g' := (mkF m 112 #[.val (.int x0), .val (.int x1), .val (.int ((1 : Int32) + (x0 &&& (127 : Int32)))), .val (.int (1 : Int32)), .val (.ref r13), .val (.long (own_high (own_bits_r_highest ((1 : Int32) + (x0 &&& (127 : Int32))) (1 : Int32)))), .second, .val (.long (own_low (own_bits_r_lowest ((1 : Int32) + (x0 &&& (127 : Int32))) (1 : Int32)))), .second, .val (.int (((1 : Int32) + (x0 &&& (127 : Int32))) - (1 : Int32))), .val (.int (own_min (((1 : Int32) + (x0 &&& (127 : Int32))) - (1 : Int32)) (63 : Int32)))] [(.int (0 : Int32))])) (fun t k => XS.ifNo X16.here hx rfl (hb hby at_108) rfl ((if0 _ _).trans (feq (fun q => hc22 ((lw_eq (((own_high (own_bits_r_highest ((1 : Int32) + (x0 &&& (127 : Int32))) (1 : Int32))).toUInt64 >>> (((own_min (((1 : Int32) + (x0 &&& (127 : Int32))) - (1 : Int32)) (63 : Int32)) - (1 : Int32)) &&& 0x3f).toInt64.toUInt64).toInt64) (1 : Int64)).mp q))).1) (XS.iconst X16.here hx rfl (hb hby at_111) k)) ?_
            refine own_retN X16 hx hlk (ty := .boolean) hret (by simp) (hb hby at_112) (by decide) (by decide) ?_
            exact ⟨by rw [own_f0, if_neg hc1, if_neg hc17, if_pos hc18, if_neg hc19, if_neg hc22] <;> rfl, N16⟩
      · refine own_via (T' := T16) (g' := (mkF m 84 #[.val (.int x0), .val (.int x1), .val (.int ((1 : Int32) + (x0 &&& (127 : Int32)))), .val (.int (1 : Int32)), .val (.ref r13), .val (.long (own_high (own_bits_r_highest ((1 : Int32) + (x0 &&& (127 : Int32))) (1 : Int32)))), .second, .val (.long (own_low (own_bits_r_lowest ((1 : Int32) + (x0 &&& (127 : Int32))) (1 : Int32)))), .second, .val (.int (((1 : Int32) + (x0 &&& (127 : Int32))) - (1 : Int32))), .val (.int (own_min (((1 : Int32) + (x0 &&& (127 : Int32))) - (1 : Int32)) (63 : Int32)))] [(.int (0 : Int32))])) (fun t k => XS.ifNo X16.here hx rfl (hb hby at_80) rfl ((if0 _ _).trans (feq (fun q => hc18 ((lw_eq ((own_high (own_bits_r_highest ((1 : Int32) + (x0 &&& (127 : Int32))) (1 : Int32))) &&& ((own_high (own_bits_r_highest ((1 : Int32) + (x0 &&& (127 : Int32))) (1 : Int32))) + (1 : Int64))) (0 : Int64)).mp q))).1) (XS.iconst X16.here hx rfl (hb hby at_83) k)) ?_
        refine own_retN X16 hx hlk (ty := .boolean) hret (by simp) (hb hby at_84) (by decide) (by decide) ?_
        exact ⟨by rw [own_f0, if_neg hc1, if_neg hc17, if_neg hc18] <;> rfl, N16⟩
theorem own_small (k : Nat) (hk : k ≤ 31) (y : Int32) (h1 : 0 ≤ y.toInt) (h2 : y.toInt < (2 ^ k : Nat)) : ∃ n : Fin (2 ^ k), y = Int32.ofNat n.val := by
  refine ⟨⟨y.toInt.toNat, by omega⟩, ?_⟩
  apply Int32.toInt_inj.mp
  have hk2 : (2 ^ k : Nat) ≤ 2 ^ 31 := Nat.pow_le_pow_right (by decide) hk
  have e : (Int32.ofNat y.toInt.toNat).toInt = (y.toInt.toNat : Int) := by rw [Int32.toInt_ofNat_of_lt (by omega)]
  show y.toInt = (Int32.ofNat y.toInt.toNat).toInt
  rw [e]; omega
theorem own_key : ∀ n : Fin (2 ^ 7), ∀ b : Fin 2, own_f0 (Int32.ofNat n.val) (Int32.ofNat b.val) = 1 := by decide +kernel
theorem own_law (x0 x1 : Int32) : own_f0 x0 x1 = 1 := by
  have e1 : (x0 &&& (127 : Int32)).toInt = x0.toInt % (2 ^ 7 : Nat) := c_mask x0 127 7 (by decide) (by decide)
  obtain ⟨n, hn⟩ := own_small 7 (by decide) (x0 &&& (127 : Int32)) (by omega) (by omega)
  have e2 : own_f0 x0 x1 = own_f0 (x0 &&& 127) (x1 &&& 1) := by
    have q1 : (x0 &&& 127) &&& 127 = x0 &&& 127 := by rw [Int32.and_assoc]; rfl
    have q2 : (x1 &&& 1) &&& 1 = x1 &&& 1 := by rw [Int32.and_assoc]; rfl
    simp only [own_f0, q1, q2]
  rw [e2, hn]
  rcases and_one x1 with q | q
  · rw [q]; exact own_key n 0
  · rw [q]; exact own_key n 1
set_option maxRecDepth 65536 in
set_option maxHeartbeats 40000000 in
theorem own_comes {Post : Tables → Env → Array Value → State → Outcome → State → Prop} (hpost : ∀ tb e args s v u, (limb_1_1.after args s (.returned v) u = true ∧ limb_1_2.after args s (.returned v) u = true ∧ True) → FrameEnd s (.returned v) u (Jvm.fieldLocs frame_1_writes args s ++ Jvm.arrayLocs frame_1_arrays args s ++ Jvm.staticLocs frame_1_statics s) 16 128 → Post tb e args s (.returned v) u) :
    ArmFor flags0 classFile x code maxLocals ret World_1 tables_1 room_1 Calls_1 rest_1 Pre_1 Post := by
  intro l hfl _ _ p e ha hc hk s m args below hf hA hF happ hP
  obtain ⟨hcalls, hrest, hpre⟩ := hP
  obtain ⟨-, -, -, hnamed, -, -, -, hat⟩ := (Spec.applies_iff hf).mp happ
  obtain ⟨hg, hn⟩ := and_e (Cond.before_iff.mp (show (Jvm.Cond.and given_1 narrow_1).before args s = true from hpre))
  obtain ⟨g1, g2⟩ := and_e hg
  obtain ⟨g3, g4⟩ := and_e g2
  obtain ⟨w0, w1, rfl⟩ : ∃ w0 w1 : Value, args = #[w0, w1] := by
    have hs : args.size = 2 := by simpa [Cond.value, given_1] using g1
    obtain ⟨L⟩ := args
    match L, hs with
    | [w0, w1], _ => exact ⟨w0, w1, rfl⟩
  have hw := fun d (hd : d ∈ tables_1) => atoms_spec (ws := Jvm.Cond.code x code maxLocals ret :: tables_1) hat d (List.mem_cons_of_mem _ hd)
  have hfit : Fit s := fun {y c} hc i hi => by
    obtain ⟨ha, rfl⟩ := Array.getElem?_eq_some_iff.mp hc
    have q := List.all_eq_true.mp ((Array.all_eq_true_iff_forall_mem.mp hF) _ (Array.getElem_mem ha)) i (List.mem_range.mpr hi)
    simpa [Array.getElem?_eq_getElem hi] using q
  obtain ⟨i0, ei0⟩ := is_v g3
  obtain rfl : w0 = (.int i0) := Option.some.inj ei0
  obtain ⟨i1, ei1⟩ := is_v g4
  obtain rfl : w1 = (.int i1) := Option.some.inj ei1
  obtain ⟨n, o, h1, h2, h3, _, L, rfl, ⟨hval, N⟩, hq⟩ := own_mt0 l s _ hw i0 i1 s.heap s.heap.size (Nat.le_refl _) tables_1 p e ha hc hk s m _ below hf ((Spec.applies_iff_loose hf).mp happ).1 ⟨rfl, State.Warmed39.refl s, rfl⟩ trivial
  rw [own_law i0 i1] at hval
  subst hval
  refine ⟨n, _, h1, h2, h3, hpost _ _ _ _ _ _ ⟨Cond.after_iff.mpr rfl, Cond.after_iff.mpr (eq_i res_at (Term.int_eval (1)) rfl), trivial⟩ ⟨hq.1, hq.2.1, (hq.2.2.sift fun y hy => Or.inr (N y hy)).mono (by decide) (by decide)⟩⟩
theorem main_1_1 : Claimed_1_1 := own_comes fun _ _ _ _ _ _ h hF => ⟨h.1, hF⟩
theorem main_1_2 : Claimed_1_2 := own_comes fun _ _ _ _ _ _ h hF => ⟨h.2.1, hF⟩
end Jvm.Pilot.@@N@@
namespace Jvm.Pilot.@@N@@
open Jvm Jvm.ClassFile Sem Op Lib Jvm.Free Jvm.Stand Jvm.Pilot.@@N@@.Jvm.D
/-! MADE BY PROGRAM (witnessworld.py) out of the Statement's table words and the real class files: 10 classes; the members and pool entries that the words name. The judged class is class 1, her method 1. -/
namespace start1
open Jvm.ClassFile
def u (s : String) : CpInfo := .utf8 (stringToUtf16 s)
/-- a pool by its gaps: so many unusable entries, then the entry; so many at the end -/
def gap : Nat → List CpInfo → List CpInfo
  | 0, r => r
  | n + 1, r => .unusable :: gap n r
def poolList (es : List (Nat × CpInfo)) (last : Nat) : List CpInfo := es.foldr (fun e r => gap e.1 (e.2 :: r)) (gap last [])
def pool (es : List (Nat × CpInfo)) (last : Nat) : Array CpInfo := ⟨poolList es last⟩
def fileOf (pool : Array CpInfo) (this : Nat) (attrs : Array Attribute := #[]) (ms : Array MethodInfo := #[]) (fl : Nat := 33) (sup : Nat := 0) (ifs : Array Nat := #[]) (fds : Array FieldInfo := #[]) : ClassFile where
  minorVersion := 0
  majorVersion := 65
  constantPool := pool
  accessFlags := fl
  thisClass := this
  superClass := sup
  interfaces := ifs
  fields := fds
  methods := ms
  attributes := attrs
def plain (name : String) (sup : Option ClassId) : Class where
  name := name
  kind := .ordinary
  loader := none
  accessFlags := 33
  super := sup
  interfaces := #[]
  cf := none
  fields := #[]
  methods := #[]
  instanceTypes := #[]
  staticTypes := #[]
  resolved := #[]
  callSites := []
  init := .initialized
  statics := none
  mirror := none

def pool0 : Array CpInfo := pool [(5, u "<init>"), (0, u "()V"), (1, .class_ 10), (1, u "java/lang/Object")] 113

def k0c0 : Code := { maxStack := 0, maxLocals := 1, code := object_method_1_code, exceptionTable := #[], attributes := #[] }
def k0m0 : Method := { name := "<init>", desc := "()V", sig := { parameters := [], returnType := none }, accessFlags := 1, code := some k0c0 }
/-- java/lang/Object -/
def k0 : Class := { plain "java/lang/Object" none with
  accessFlags := 33
  interfaces := #[]
  cf := some (fileOf pool0 8 #[] #[{ accessFlags := 1, nameIndex := 5, descriptorIndex := 6, attributes := #[] }] 33 0 #[] #[])
  fields := #[]
  methods := #[k0m0]
  instanceTypes := #[]
  staticTypes := #[]
  resolved := Array.replicate 124 none
  statics := none }

def pool1 : Array CpInfo := pool [(2, .class_ 4), (1, u "java/lang/Object"), (0, u "<init>"), (0, u "()V"), (0, .methodref 8 9), (0, .class_ 10), (0, .nameAndType 11 12), (0, u "com/example/surrogate/surrogate/KeyRange"), (0, u "ofBits"), (0, u "(IZ)Lcom/example/surrogate/surrogate/KeyRange;"), (0, .methodref 8 14), (0, .nameAndType 15 16), (0, u "highest"), (0, u "()J"), (0, .methodref 8 18), (0, .nameAndType 19 16), (0, u "lowest"), (0, .methodref 21 22), (0, .class_ 23), (0, .nameAndType 24 25), (0, u "java/lang/Math"), (0, u "min"), (0, u "(II)I"), (0, .long 18446744073709551615), (1, .class_ 29), (0, u "com/example/surrogate/surrogate/KeyRangeOfBitsPinLaw"), (2, u "law"), (0, u "(II)Z")] 3

def k1m0 : Method := { name := "<init>", desc := "()V", sig := { parameters := [], returnType := none }, accessFlags := 1, code := none }
def k1c1 : Code := { maxStack := 6, maxLocals := 11, code := code, exceptionTable := #[], attributes := #[] }
def k1m1 : Method := { name := "law", desc := "(II)Z", sig := { parameters := [.int, .int], returnType := some .boolean }, accessFlags := 9, code := some k1c1 }
/-- com/example/surrogate/surrogate/KeyRangeOfBitsPinLaw -/
def k1 : Class := { plain "com/example/surrogate/surrogate/KeyRangeOfBitsPinLaw" (some 0) with
  accessFlags := 49
  interfaces := #[]
  cf := some (fileOf pool1 28 #[] #[{ accessFlags := 1, nameIndex := 5, descriptorIndex := 6, attributes := #[] }, { accessFlags := 9, nameIndex := 32, descriptorIndex := 33, attributes := #[] }] 49 2 #[] #[])
  fields := #[]
  methods := #[k1m0, k1m1]
  instanceTypes := #[]
  staticTypes := #[]
  resolved := Array.replicate 37 none
  statics := none }

def pool2 : Array CpInfo := pool [(1, .methodref 2 3), (0, .class_ 4), (0, .nameAndType 5 6), (0, u "java/lang/Object"), (0, u "<init>"), (0, u "()V"), (0, .fieldref 8 9), (0, .class_ 10), (0, .nameAndType 11 12), (0, u "com/example/surrogate/surrogate/KeyRange"), (0, u "lowest"), (0, u "J"), (0, .fieldref 8 14), (0, .nameAndType 15 12), (0, u "highest"), (2, .long 9223372036854775807), (1, .methodref 8 21), (0, .nameAndType 5 22), (0, u "(JJ)V"), (2, u "EVERY_LONG"), (0, u "Lcom/example/surrogate/surrogate/KeyRange;"), (8, u "OUT_OF_RANGE"), (0, u "Ljava/lang/String;"), (3, u "LONG_DIGITS"), (0, u "I"), (3, u "ofBits"), (0, u "(IZ)Lcom/example/surrogate/surrogate/KeyRange;"), (3, u "()J")] 22

def k2c0 : Code := { maxStack := 3, maxLocals := 5, code := prog_24_method_1_code, exceptionTable := #[], attributes := #[] }
def k2m0 : Method := { name := "<init>", desc := "(JJ)V", sig := { parameters := [.long, .long], returnType := none }, accessFlags := 2, code := some k2c0 }
def k2c1 : Code := { maxStack := 6, maxLocals := 5, code := prog_24_method_2_code, exceptionTable := #[], attributes := #[] }
def k2m1 : Method := { name := "ofBits", desc := "(IZ)Lcom/example/surrogate/surrogate/KeyRange;", sig := { parameters := [.int, .boolean], returnType := some (.object "com/example/surrogate/surrogate/KeyRange") }, accessFlags := 8, code := some k2c1 }
def k2c2 : Code := { maxStack := 2, maxLocals := 1, code := prog_24_method_4_code, exceptionTable := #[], attributes := #[] }
def k2m2 : Method := { name := "lowest", desc := "()J", sig := { parameters := [], returnType := some .long }, accessFlags := 0, code := some k2c2 }
def k2c3 : Code := { maxStack := 2, maxLocals := 1, code := prog_24_method_5_code, exceptionTable := #[], attributes := #[] }
def k2m3 : Method := { name := "highest", desc := "()J", sig := { parameters := [], returnType := some .long }, accessFlags := 0, code := some k2c3 }
/-- com/example/surrogate/surrogate/KeyRange -/
def k2 : Class := { plain "com/example/surrogate/surrogate/KeyRange" (some 0) with
  accessFlags := 32
  interfaces := #[]
  cf := some (fileOf pool2 8 #[] #[{ accessFlags := 2, nameIndex := 5, descriptorIndex := 22, attributes := #[] }, { accessFlags := 8, nameIndex := 45, descriptorIndex := 46, attributes := #[] }, { accessFlags := 0, nameIndex := 11, descriptorIndex := 50, attributes := #[] }, { accessFlags := 0, nameIndex := 15, descriptorIndex := 50, attributes := #[] }] 32 2 #[] #[{ accessFlags := 24, nameIndex := 25, descriptorIndex := 26, attributes := #[] }, { accessFlags := 24, nameIndex := 35, descriptorIndex := 36, attributes := #[] }, { accessFlags := 26, nameIndex := 40, descriptorIndex := 41, attributes := #[] }, { accessFlags := 18, nameIndex := 11, descriptorIndex := 12, attributes := #[] }, { accessFlags := 18, nameIndex := 15, descriptorIndex := 12, attributes := #[] }])
  fields := #[{ name := "EVERY_LONG", type := (.object "com/example/surrogate/surrogate/KeyRange"), accessFlags := 24, slot := 0, constantValue := 0 }, { name := "OUT_OF_RANGE", type := (.object "java/lang/String"), accessFlags := 24, slot := 1, constantValue := 0 }, { name := "LONG_DIGITS", type := .int, accessFlags := 26, slot := 2, constantValue := 0 }, { name := "lowest", type := .long, accessFlags := 18, slot := 0, constantValue := 0 }, { name := "highest", type := .long, accessFlags := 18, slot := 1, constantValue := 0 }]
  methods := #[k2m0, k2m1, k2m2, k2m3]
  instanceTypes := #[.long, .long]
  staticTypes := #[(.object "com/example/surrogate/surrogate/KeyRange"), (.object "java/lang/String"), .int]
  resolved := Array.replicate 73 none
  statics := none }

def pool3 : Array CpInfo := pool [(1, .class_ 2), (0, u "java/lang/Math"), (1, .class_ 6), (1, u "java/lang/Object"), (0, u "<init>"), (0, u "()V"), (89, .class_ 100), (1, u "java/lang/Math$RandomNumberGeneratorHolder"), (71, u "negativeZeroFloatBits"), (0, u "J"), (2, u "negativeZeroDoubleBits"), (24, u "min"), (43, u "$assertionsDisabled"), (0, u "Z"), (88, u "(II)I"), (2, u "twoToTheDoubleScaleDown"), (0, u "D"), (4, u "twoToTheDoubleScaleUp"), (9, u "E"), (3, u "PI"), (2, u "TAU"), (2, u "DEGREES_TO_RADIANS"), (0, u "RADIANS_TO_DEGREES")] 94

def k3m0 : Method := { name := "<init>", desc := "()V", sig := { parameters := [], returnType := none }, accessFlags := 2, code := none }
def k3c1 : Code := { maxStack := 2, maxLocals := 2, code := jdk_29_method_69_code, exceptionTable := #[], attributes := #[] }
def k3m1 : Method := { name := "min", desc := "(II)I", sig := { parameters := [.int, .int], returnType := some .int }, accessFlags := 9, code := some k3c1 }
/-- java/lang/Math -/
def k3 : Class := { plain "java/lang/Math" (some 0) with
  accessFlags := 49
  interfaces := #[]
  cf := some (fileOf pool3 1 #[.nestMembers #[98]] #[{ accessFlags := 2, nameIndex := 7, descriptorIndex := 8, attributes := #[] }, { accessFlags := 9, nameIndex := 201, descriptorIndex := 335, attributes := #[] }] 49 4 #[] #[{ accessFlags := 25, nameIndex := 354, descriptorIndex := 339, attributes := #[] }, { accessFlags := 25, nameIndex := 358, descriptorIndex := 339, attributes := #[] }, { accessFlags := 25, nameIndex := 361, descriptorIndex := 339, attributes := #[] }, { accessFlags := 26, nameIndex := 364, descriptorIndex := 339, attributes := #[] }, { accessFlags := 26, nameIndex := 365, descriptorIndex := 339, attributes := #[] }, { accessFlags := 26, nameIndex := 172, descriptorIndex := 173, attributes := #[] }, { accessFlags := 26, nameIndex := 176, descriptorIndex := 173, attributes := #[] }, { accessFlags := 8, nameIndex := 344, descriptorIndex := 339, attributes := #[] }, { accessFlags := 8, nameIndex := 338, descriptorIndex := 339, attributes := #[] }, { accessFlags := 4120, nameIndex := 245, descriptorIndex := 246, attributes := #[] }])
  fields := #[{ name := "E", type := .double, accessFlags := 25, slot := 0, constantValue := 0 }, { name := "PI", type := .double, accessFlags := 25, slot := 1, constantValue := 0 }, { name := "TAU", type := .double, accessFlags := 25, slot := 2, constantValue := 0 }, { name := "DEGREES_TO_RADIANS", type := .double, accessFlags := 26, slot := 3, constantValue := 0 }, { name := "RADIANS_TO_DEGREES", type := .double, accessFlags := 26, slot := 4, constantValue := 0 }, { name := "negativeZeroFloatBits", type := .long, accessFlags := 26, slot := 5, constantValue := 0 }, { name := "negativeZeroDoubleBits", type := .long, accessFlags := 26, slot := 6, constantValue := 0 }, { name := "twoToTheDoubleScaleUp", type := .double, accessFlags := 8, slot := 7, constantValue := 0 }, { name := "twoToTheDoubleScaleDown", type := .double, accessFlags := 8, slot := 8, constantValue := 0 }, { name := "$assertionsDisabled", type := .boolean, accessFlags := 4120, slot := 9, constantValue := 0 }]
  methods := #[k3m0, k3m1]
  instanceTypes := #[]
  staticTypes := #[.double, .double, .double, .double, .double, .long, .long, .double, .double, .boolean]
  resolved := Array.replicate 460 none
  statics := none }

def pool4 : Array CpInfo := pool [(1, u "java/lang/Cloneable"), (0, .class_ 1), (0, u "java/lang/Object"), (0, .class_ 3)] 3

/-- java/lang/Cloneable -/
def k4 : Class := { plain "java/lang/Cloneable" (some 0) with
  accessFlags := 1537
  interfaces := #[]
  cf := some (fileOf pool4 2 #[] #[] 1537 4 #[] #[])
  fields := #[]
  methods := #[]
  instanceTypes := #[]
  staticTypes := #[]
  resolved := Array.replicate 8 none
  statics := none }

def pool5 : Array CpInfo := pool [(1, u "java/io/Serializable"), (0, .class_ 1), (0, u "java/lang/Object"), (0, .class_ 3)] 3

/-- java/io/Serializable -/
def k5 : Class := { plain "java/io/Serializable" (some 0) with
  accessFlags := 1537
  interfaces := #[]
  cf := some (fileOf pool5 2 #[] #[] 1537 4 #[] #[])
  fields := #[]
  methods := #[]
  instanceTypes := #[]
  staticTypes := #[]
  resolved := Array.replicate 8 none
  statics := none }

/-- the primitive byte -/
def k6 : Class := { plain "byte" none with kind := .primitive 'B', accessFlags := 0x411 }
/-- [B -/
def k7 : Class := { plain "[B" (some 0) with kind := .array 6 .byte, interfaces := #[4, 5], accessFlags := 1041 }

/-- the primitive int -/
def k8 : Class := { plain "int" none with kind := .primitive 'I', accessFlags := 0x411 }
/-- [I -/
def k9 : Class := { plain "[I" (some 0) with kind := .array 8 .int, interfaces := #[4, 5], accessFlags := 1041 }

def heap : Heap := #[]
def classes : Array Class := #[k0, k1, k2, k3, k4, k5, k6, k7, k8, k9]
def interned : List (Array UInt16 × Addr) := []
def slotsUsed : Nat := 0
def theMethod : MethodId := ⟨1, 1⟩
def args0 : Array Value := #[.int 5, .int 3]
def aboutOver (below : List Frame) : State where
  vm := { classes := classes, interned := interned.toArray }
  heap := heap
  slotsUsed := slotsUsed
  threads := #[{ frames := .invoking theMethod args0 :: below }]
def below0 : List Frame := [.native { method := ⟨0, 0⟩, args := #[] }]
def about1 : State := aboutOver below0
def p0 : Program := .bare "" "" ""
def e0 : Env := launch0.env 0 0 0
theorem w_frames : about1.frames = Frame.invoking theMethod args0 :: below0 := rfl
set_option maxRecDepth 65536 in
theorem w_args : argsFit about1.vm theMethod args0 = true := by decide +kernel
set_option maxRecDepth 65536 in
theorem w_heap : heapFits about1 = true := by decide +kernel
set_option maxRecDepth 65536 in
theorem w_runnable : about1.curStatus? = some .runnable := by decide +kernel
set_option maxRecDepth 65536 in
theorem w_alone : about1.alone = true := by decide +kernel
set_option maxRecDepth 65536 in
theorem w_named : about1.methodNamed? x = some theMethod := by decide +kernel
set_option maxRecDepth 65536 in
theorem w_hears : about1.hears theMethod below0 = true := by decide +kernel
set_option maxRecDepth 65536 in
theorem w_ripe : about1.ripe theMethod args0 below0 = true := by decide +kernel
theorem w_running : about1.status = .running := rfl
set_option maxRecDepth 65536 in
theorem w_room : about1.hasRoom e0.platform room_1 = true :=
  launch0.hasRoom_least _ room_1 (by decide +kernel) (by decide +kernel) (by decide +kernel) (by decide +kernel) (by decide +kernel) (by decide +kernel)
theorem allAtoms_all (ts : List Jvm.Cond) (a : Array Jvm.Value) (st : Jvm.State) : (allAtoms ts).before a st = ts.all (fun c => c.before a st) := by
  induction ts with
  | nil => rfl
  | cons c t ih =>
    show (Jvm.Cond.and c (allAtoms t)).before a st = _
    rw [Jvm.Cond.before_and, ih, List.all_cons]
def words1 : List Jvm.Cond := Jvm.Cond.code x code maxLocals ret :: tables_1
/-- a 'code' word, met by the world's own term for the bytes: nothing is compared byte by byte -/
theorem code_word {y : MethodName} {bytes : ByteArray} {mx : Nat} {rt : Option FieldType} {a : Array Value} {s : State} {m : MethodId} {meth : Method} {c : Code} (h1 : s.methodNamed? y = some m) (h2 : s.vm.method? m = some meth) (h3 : meth.code = some c) (h4 : c.code = bytes)
    (h5 : (c.maxLocals == mx && c.exceptionTable.isEmpty && decide (c.maxStack ≤ mostOperands) && decide (meth.sig.returnType = rt) && !meth.locks && decide (parseMethodDescriptor y.desc = some meth.sig)) = true) : (Jvm.Cond.code y bytes mx rt).before a s = true := by
  simp only [Bool.and_eq_true, beq_iff_eq, Bool.not_eq_true', decide_eq_true_eq] at h5
  obtain ⟨⟨⟨⟨⟨g1, g2⟩, g3⟩, g4⟩, g5⟩, g6⟩ := h5
  simp [Cond.before, Cond.holds, Cond.value, h1, h2, h3, h4, g1, g2, g3, g4, g5, g6]
def isCode : Jvm.Cond → Bool
  | .code _ _ _ _ => true
  | _ => false
theorem all_split {L : List Jvm.Cond} {P : Jvm.Cond → Bool} (h1 : L.all (fun c => isCode c || P c) = true) (h2 : ∀ c ∈ L.filter isCode, P c = true) : L.all P = true := by
  refine List.all_eq_true.mpr fun c hc => ?_
  have h := List.all_eq_true.mp h1 c hc
  rcases Bool.eq_false_or_eq_true (isCode c) with hi | hi
  · exact h2 c (List.mem_filter.mpr ⟨hc, hi⟩)
  · simpa [hi] using h
set_option maxRecDepth 65536 in
theorem w_c0 : (Jvm.Cond.code x code maxLocals ret).before args0 about1 = true := code_word (m := ⟨1, 1⟩) (meth := k1m1) (c := k1c1) (by decide +kernel) rfl rfl rfl (by decide +kernel)
set_option maxRecDepth 65536 in
theorem w_c1 : (Jvm.Cond.code ({ cls := "com/example/surrogate/surrogate/KeyRange", name := "ofBits", desc := "(IZ)Lcom/example/surrogate/surrogate/KeyRange;" } : Jvm.MethodName) prog_24_method_2_code (5 : Nat) (Option.some (Jvm.ClassFile.FieldType.object "com/example/surrogate/surrogate/KeyRange"))).before args0 about1 = true := code_word (m := ⟨2, 1⟩) (meth := k2m1) (c := k2c1) (by decide +kernel) rfl rfl rfl (by decide +kernel)
set_option maxRecDepth 65536 in
theorem w_c2 : (Jvm.Cond.code ({ cls := "com/example/surrogate/surrogate/KeyRange", name := "<init>", desc := "(JJ)V" } : Jvm.MethodName) prog_24_method_1_code (5 : Nat) (Option.none : Option Jvm.ClassFile.FieldType)).before args0 about1 = true := code_word (m := ⟨2, 0⟩) (meth := k2m0) (c := k2c0) (by decide +kernel) rfl rfl rfl (by decide +kernel)
set_option maxRecDepth 65536 in
theorem w_c3 : (Jvm.Cond.code ({ cls := "java/lang/Object", name := "<init>", desc := "()V" } : Jvm.MethodName) object_method_1_code (1 : Nat) (Option.none : Option Jvm.ClassFile.FieldType)).before args0 about1 = true := code_word (m := ⟨0, 0⟩) (meth := k0m0) (c := k0c0) (by decide +kernel) rfl rfl rfl (by decide +kernel)
set_option maxRecDepth 65536 in
theorem w_c4 : (Jvm.Cond.code ({ cls := "com/example/surrogate/surrogate/KeyRange", name := "highest", desc := "()J" } : Jvm.MethodName) prog_24_method_5_code (1 : Nat) (Option.some Jvm.ClassFile.FieldType.long)).before args0 about1 = true := code_word (m := ⟨2, 3⟩) (meth := k2m3) (c := k2c3) (by decide +kernel) rfl rfl rfl (by decide +kernel)
set_option maxRecDepth 65536 in
theorem w_c5 : (Jvm.Cond.code ({ cls := "com/example/surrogate/surrogate/KeyRange", name := "lowest", desc := "()J" } : Jvm.MethodName) prog_24_method_4_code (1 : Nat) (Option.some Jvm.ClassFile.FieldType.long)).before args0 about1 = true := code_word (m := ⟨2, 2⟩) (meth := k2m2) (c := k2c2) (by decide +kernel) rfl rfl rfl (by decide +kernel)
set_option maxRecDepth 65536 in
theorem w_c6 : (Jvm.Cond.code ({ cls := "java/lang/Math", name := "min", desc := "(II)I" } : Jvm.MethodName) jdk_29_method_69_code (2 : Nat) (Option.some Jvm.ClassFile.FieldType.int)).before args0 about1 = true := code_word (m := ⟨3, 1⟩) (meth := k3m1) (c := k3c1) (by decide +kernel) rfl rfl rfl (by decide +kernel)
def codes1 : List Jvm.Cond := [Jvm.Cond.code x code maxLocals ret, Jvm.Cond.code ({ cls := "com/example/surrogate/surrogate/KeyRange", name := "ofBits", desc := "(IZ)Lcom/example/surrogate/surrogate/KeyRange;" } : Jvm.MethodName) prog_24_method_2_code (5 : Nat) (Option.some (Jvm.ClassFile.FieldType.object "com/example/surrogate/surrogate/KeyRange")), Jvm.Cond.code ({ cls := "com/example/surrogate/surrogate/KeyRange", name := "<init>", desc := "(JJ)V" } : Jvm.MethodName) prog_24_method_1_code (5 : Nat) (Option.none : Option Jvm.ClassFile.FieldType), Jvm.Cond.code ({ cls := "java/lang/Object", name := "<init>", desc := "()V" } : Jvm.MethodName) object_method_1_code (1 : Nat) (Option.none : Option Jvm.ClassFile.FieldType), Jvm.Cond.code ({ cls := "com/example/surrogate/surrogate/KeyRange", name := "highest", desc := "()J" } : Jvm.MethodName) prog_24_method_5_code (1 : Nat) (Option.some Jvm.ClassFile.FieldType.long), Jvm.Cond.code ({ cls := "com/example/surrogate/surrogate/KeyRange", name := "lowest", desc := "()J" } : Jvm.MethodName) prog_24_method_4_code (1 : Nat) (Option.some Jvm.ClassFile.FieldType.long), Jvm.Cond.code ({ cls := "java/lang/Math", name := "min", desc := "(II)I" } : Jvm.MethodName) jdk_29_method_69_code (2 : Nat) (Option.some Jvm.ClassFile.FieldType.int)]
set_option maxRecDepth 65536 in
theorem codes_eq : words1.filter isCode = codes1 := rfl
theorem w_codes : ∀ c ∈ words1.filter isCode, c.before args0 about1 = true := by
  rw [codes_eq]
  intro c hc
  simp only [codes1, List.mem_cons, List.not_mem_nil, or_false] at hc
  rcases hc with rfl | rfl | rfl | rfl | rfl | rfl | rfl
  · exact w_c0
  · exact w_c1
  · exact w_c2
  · exact w_c3
  · exact w_c4
  · exact w_c5
  · exact w_c6
set_option maxRecDepth 65536 in
theorem w_t1 : (words1.take 24).all (fun c => isCode c || c.before args0 about1) = true := by decide +kernel
set_option maxRecDepth 65536 in
theorem w_t2 : (words1.drop 24).all (fun c => isCode c || c.before args0 about1) = true := by decide +kernel
theorem w_tables : (allAtoms (Jvm.Cond.code x code maxLocals ret :: tables_1)).before args0 about1 = true := by
  rw [allAtoms_all]
  show words1.all (fun c => c.before args0 about1) = true
  refine all_split ?_ w_codes
  rw [← List.take_append_drop 24 words1, List.all_append, w_t1, w_t2]
  rfl
set_option maxRecDepth 65536 in
theorem w_case : (Jvm.Cond.and given_1 narrow_1).before args0 about1 = true := by decide +kernel
theorem w_applies : (headSpec (Jvm.Cond.code x code maxLocals ret :: tables_1) room_1).applies x e0.platform about1 = true :=
  (Spec.applies_iff w_frames).mpr ⟨w_running, w_runnable, w_alone, w_named, w_hears, w_ripe, w_room, w_tables⟩
theorem atStart : AtStart classFile x code maxLocals ret World_1 tables_1 room_1 Calls_1 rest_1 Pre_1 launch0 p0 e0 about1 theMethod args0 below0 :=
  ⟨lists_1, trivial, launch0.admits_env _ _ _, launch0.least_env, fairChoices_fair.cas, fairChoices_fair.clock, w_frames, w_args, w_heap, w_applies, trivial, trivial, w_case⟩
end start1
theorem witness_1 : WitnessClaimed_1 := ⟨start1.p0, start1.e0, start1.about1, start1.theMethod, start1.args0, start1.below0, start1.atStart⟩
end Jvm.Pilot.@@N@@
