import JvmDerived
import JvmDerived.Pilot.@@N@@Statement
import JvmDerived.Pilot.@@N@@Code
set_option linter.unusedVariables false
set_option linter.unusedSimpArgs false
namespace Jvm.Pilot.@@N@@
open Jvm Jvm.ClassFile Sem Op Lib Jvm.Free Jvm.Stand Jvm.LawKit Jvm.RoadKit Bundle Jvm.Pilot.@@N@@.Jvm.D
/-! my own small kit: a walk by continuation -/
section Own
variable {p : Program} {l : Launch} {e : Env} {R : Room} {s : State} {m : MethodId} {args : Array Value} {below : List Frame} {meth : Method} {c : Code} {T T' : State} {locs : List Loc} {cells slots : Nat} {Z : State} {a0 : Array Value} {h h' h0 : Heap} {g g' : JFrame} {a b : Addr} {ty : FieldType} {vs : List Value} {v w : Value} {sl : Nat} {ws : List Addr}
/-- from the frame g over T the run comes to an end with G -/
def own_Go (p : Program) (e : Env) (below : List Frame) (G : Outcome → State → Prop) (T : State) (g : JFrame) : Prop := ∃ s₂ o, Steps p.tables e below (T.setTop g) s₂ ∧ s₂.status = .running ∧ Ended s₂ below o ∧ G o s₂
def own_End (s : State) (kc ks : Nat) (Q : Option Value → Heap → List Loc → Prop) (o : Outcome) (U' : State) : Prop := ∃ v L, o = .returned v ∧ Q v U'.heap L ∧ FrameEnd s o U' L kc ks
def own_Met (l : Launch) (Z : State) (y : MethodName) (bytes : ByteArray) (maxL : Nat) (ret : Option FieldType) (rm : Room) (as' : Array Value) (h0 : Heap) (Q : Option Value → Heap → List Loc → Prop) : Prop :=
  ∀ ws : List Jvm.Cond, MetFree l y (head1 (Jvm.Cond.code y bytes maxL ret :: ws) rm) (fun a U => a = as' ∧ Z.Warmed39 U.vm ∧ U.heap = h0) (fun _ _ _ _ _ => True) (fun _ U o U' => ∃ v L, o = .returned v ∧ Q v U'.heap L ∧ FrameEnd U o U' L rm.cells rm.slots)
theorem own_via {G : Outcome → State → Prop} (q : ∀ t, Steps p.tables e below (T'.setTop g') t → Steps p.tables e below (T.setTop g) t) (k : own_Go p e below G T' g') : own_Go p e below G T g := by
  obtain ⟨t, o, h1, r⟩ := k; exact ⟨t, o, q t h1, r⟩
theorem own_cast {G : Outcome → State → Prop} (q : g = g') (k : own_Go p e below G T g') : own_Go p e below G T g := q ▸ k
theorem own_intro {y : MethodName} {bytes : ByteArray} {maxL : Nat} {ret : Option FieldType} {rm : Room} {as' : Array Value} {Q : Option Value → Heap → List Loc → Prop} (hp : plainFor y = true)
    (body : ∀ (p : Program) (e : Env) (s : State) (m : MethodId) (below : List Frame) (meth : Method) (c : Code) (s₁ : State), p.tables.exec = Jvm.exec → c.code = bytes → c.maxLocals = maxL → s.vm.findClass y.cls = some m.cls → meth.name = y.name → Z.Warmed39 s.vm → meth.sig.returnType = ret → meth.locks = false → Stand p l e rm s m as' below meth c s₁ [] 0 0 → s₁.heap = h0 → own_Go p e below (own_End s rm.cells rm.slots Q) s₁ (entryFrame m as' maxL)) : own_Met l Z y bytes maxL ret rm as' h0 Q := by
  intro ws
  refine MetFree.of_bodySF hp hisR ?_
  intro p e s m args below meth c s₁ Bd hml hP hK
  obtain ⟨rfl, hZ, hh⟩ := hP
  exact body p e s m below meth c s₁ Bd.exec Bd.bytes hml (findClass_of_methodNamed Bd.named) (name_of_methodNamed Bd.named Bd.method).1 hZ Bd.returns Bd.notSynchronized (Stand.of_body Bd) (by rw [← hh, Bd.state]; rfl)
theorem own_fin {kc ks : Nat} {Q : Option Value → Heap → List Loc → Prop} (X : Stand p l e R s m args below meth c T locs cells slots) (hlk : meth.locks = false) {u : Option Value} (hv : meth.sig.returnType = none → u = none) (hq : Q u T.heap locs) (hc : cells ≤ kc) (hs : slots ≤ ks)
    (st : ∀ fs, (∀ (f : JFrame) (acts : List Action), f.method = m → f.locked = none → f.entered = [] → (doReturn e (T.setTop f) acts u).1 = T.setFrames fs) → Steps p.tables e below (T.setTop g) (T.setFrames fs)) : own_Go p e below (own_End s kc ks Q) T g := by
  obtain ⟨fs, hr, hrun, hended, hW, hsame⟩ := X.leave (v := u) hv hlk
  exact ⟨_, _, st fs hr, hrun, hended, _, _, rfl, hq, ⟨_, rfl⟩, hW, hsame.mono hc hs⟩
theorem own_retI {kc ks : Nat} {Q : Option Value → Heap → List Loc → Prop} (X : Stand p l e R s m args below meth c T locs cells slots) (hx : p.tables.exec = Jvm.exec) (hlk : meth.locks = false) {pc : Nat} {Ls : Array Slot} {z : Int32} {rest : List Value} (hret : meth.sig.returnType = some .int) (hd : decode c.code pc = .ok (.ireturn, 1)) (hc : cells ≤ kc) (hs : slots ≤ ks) (hq : Q (some (.int z)) T.heap locs) : own_Go p e below (own_End s kc ks Q) T (mkF m pc Ls (.int z :: rest)) :=
  own_fin X hlk (fun q => by rw [hret] at q; cases q) hq hc hs fun fs hr => retOut X hx hret rfl (Or.inl ⟨rfl, Or.inl rfl, _, rfl⟩) hd hr
theorem own_retJ {kc ks : Nat} {Q : Option Value → Heap → List Loc → Prop} (X : Stand p l e R s m args below meth c T locs cells slots) (hx : p.tables.exec = Jvm.exec) (hlk : meth.locks = false) {pc : Nat} {Ls : Array Slot} {z : Int64} {rest : List Value} (hret : meth.sig.returnType = some .long) (hd : decode c.code pc = .ok (.lreturn, 1)) (hc : cells ≤ kc) (hs : slots ≤ ks) (hq : Q (some (.long z)) T.heap locs) : own_Go p e below (own_End s kc ks Q) T (mkF m pc Ls (.long z :: rest)) :=
  own_fin X hlk (fun q => by rw [hret] at q; cases q) hq hc hs fun fs hr => retOut X hx hret rfl (Or.inr (Or.inl ⟨rfl, rfl, _, rfl⟩)) hd hr
theorem own_retA {kc ks : Nat} {Q : Option Value → Heap → List Loc → Prop} (X : Stand p l e R s m args below meth c T locs cells slots) (hx : p.tables.exec = Jvm.exec) (hlk : meth.locks = false) {pc : Nat} {Ls : Array Slot} {z : Value} {rest : List Value} (hret : meth.sig.returnType = some ty) (ht : ty.isReference = true) (hz : z.isRef = true) (hd : decode c.code pc = .ok (.areturn, 1)) (hc : cells ≤ kc) (hs : slots ≤ ks) (hq : Q (some z) T.heap locs) : own_Go p e below (own_End s kc ks Q) T (mkF m pc Ls (z :: rest)) :=
  own_fin X hlk (fun q => by rw [hret] at q; cases q) hq hc hs fun fs hr => retOut X hx hret (by cases ty <;> first | rfl | cases ht) (Or.inr (Or.inr (Or.inr (Or.inr ⟨rfl, ht, hz⟩)))) hd hr
theorem own_retN {kc ks : Nat} {Q : Option Value → Heap → List Loc → Prop} (X : Stand p l e R s m args below meth c T locs cells slots) (hx : p.tables.exec = Jvm.exec) (hlk : meth.locks = false) {pc : Nat} {Ls : Array Slot} {z : Int32} {rest : List Value} (hret : meth.sig.returnType = some ty) (ht : ty = .boolean ∨ ty = .byte ∨ ty = .char ∨ ty = .short) (hd : decode c.code pc = .ok (.ireturn, 1)) (hc : cells ≤ kc) (hs : slots ≤ ks) (hq : Q (some (.int (nar ty z))) T.heap locs) : own_Go p e below (own_End s kc ks Q) T (mkF m pc Ls (.int z :: rest)) :=
  own_fin X hlk (fun q => by rw [hret] at q; cases q) hq hc hs fun fs hr => retN X hx hret ht hd hr
theorem own_retV {kc ks : Nat} {Q : Option Value → Heap → List Loc → Prop} (X : Stand p l e R s m args below meth c T locs cells slots) (hx : p.tables.exec = Jvm.exec) (hlk : meth.locks = false) {pc : Nat} {Ls : Array Slot} (hret : meth.sig.returnType = none) (hd : decode c.code pc = .ok (.return_, 1)) (hc : cells ≤ kc) (hs : slots ≤ ks) (hq : Q none T.heap locs) : own_Go p e below (own_End s kc ks Q) T (mkF m pc Ls []) :=
  own_fin X hlk (fun _ => rfl) hq hc hs fun fs hr => X.returnOut hx hret hd hr
theorem own_callSt {y : MethodName} {bytes : ByteArray} {maxL : Nat} {ret : Option FieldType} {rm : Room} {Q : Option Value → Heap → List Loc → Prop} (X : Stand p l e R s m args below meth c T locs cells slots) (hx : p.tables.exec = Jvm.exec) (hZ : Z.Warmed39 s.vm) {own : String} {index : Nat} (hown : s.vm.findClass own = some m.cls)
    (w1 : (Jvm.Cond.methodLink own index y).before a0 Z = true) (w2 : (Jvm.Cond.static y).before a0 Z = true) (w3 : (Jvm.Cond.initialized y.cls).before a0 Z = true) (w4 : (Jvm.Cond.code y bytes maxL ret).before a0 Z = true) (hy : y.cls ≠ "java/lang/invoke/MethodHandle" ∧ y.cls ≠ "java/lang/invoke/VarHandle") {argsL rest : List Value}
    (M : own_Met l Z y bytes maxL ret rm argsL.toArray h Q) (eT : T.heap = h) {W : Nat} (hf : rm.frames + 1 ≤ R.frames) (hl : W + (maxL + 11) + rm.locals ≤ R.locals) {g : JFrame} (hg : g.method = m) (hsize : g.locals.size = c.maxLocals) (hlen : ∀ sig, parseMethodDescriptor y.desc = some sig → argsL.length = sig.parameters.length) (hs : g.stack = argsL.reverse ++ rest) (hW : 2 * g.monitorRoom + (rest.map fun v => v.category).sum ≤ W) (hd : decode c.code g.pc = .ok (.invokestatic index, 3)) (hc : cells + rm.cells ≤ R.cells) (hsl : slots + rm.slots ≤ R.slots) :
    ∃ v T' L, Stand p l e R s m args below meth c T' (locs ++ L) (cells + rm.cells) (slots + rm.slots) ∧ Q v T'.heap L ∧ ∀ target, Steps p.tables e below (T'.setTop { g with pc := g.pc + 3, stack := v.toList ++ rest }) target → Steps p.tables e below (T.setTop g) target := by
  obtain ⟨v, _, ⟨T', L', k', n'⟩, -, X', ⟨L, hQ, l1, l2, l3⟩, st⟩ := Jvm.LawKit.callS X hx (y := y) hown (mvT hZ w1) (mvT hZ w2) (mvT hZ w3) (mvT hZ w4) hy (backOf (W := W) (M []) hZ w4 w3 hf hl) hg hsize (argsL := argsL) (rest := rest) hlen hs hW hd (fun _ _ => ⟨rfl, eT, hc, hsl⟩)
  dsimp only [Pt.U, Pt.locs, Pt.cells, Pt.slots] at X' l1 l2 l3 st hQ
  subst l1 l2 l3
  exact ⟨v, T', L, X', hQ, st⟩
theorem own_callSp {y : MethodName} {bytes : ByteArray} {maxL : Nat} {rm : Room} {Q : Option Value → Heap → List Loc → Prop} (X : Stand p l e R s m args below meth c T locs cells slots) (hx : p.tables.exec = Jvm.exec) (hZ : Z.Warmed39 s.vm) {own : String} {index : Nat} (hown : s.vm.findClass own = some m.cls) (hy1 : y.name = "<init>")
    (w1 : (Jvm.Cond.methodLink own index y).before a0 Z = true) (w2 : (Jvm.Cond.instanceMethod y).before a0 Z = true) (w3 : (Jvm.Cond.initialized y.cls).before a0 Z = true) (w4 : (Jvm.Cond.code y bytes maxL none).before a0 Z = true) (hy : y.cls ≠ "java/lang/invoke/MethodHandle" ∧ y.cls ≠ "java/lang/invoke/VarHandle") {argsL rest : List Value}
    (M : own_Met l Z y bytes maxL none rm (.ref a :: argsL).toArray h Q) (eT : T.heap = h) {W : Nat} (hf : rm.frames + 1 ≤ R.frames) (hl : W + (maxL + 11) + rm.locals ≤ R.locals) {g : JFrame} (hg : g.method = m) (hsize : g.locals.size = c.maxLocals) (hlen : ∀ sig, parseMethodDescriptor y.desc = some sig → argsL.length = sig.parameters.length) (hs : g.stack = argsL.reverse ++ .ref a :: rest) (hW : 2 * g.monitorRoom + (rest.map fun v => v.category).sum ≤ W) (hd : decode c.code g.pc = .ok (.invokespecial index, 3)) (hc : cells + rm.cells ≤ R.cells) (hsl : slots + rm.slots ≤ R.slots) :
    ∃ v T' L, Stand p l e R s m args below meth c T' (locs ++ L) (cells + rm.cells) (slots + rm.slots) ∧ Q v T'.heap L ∧ ∀ target, Steps p.tables e below (T'.setTop { g with pc := g.pc + 3, stack := v.toList ++ rest }) target → Steps p.tables e below (T.setTop g) target := by
  obtain ⟨v, _, ⟨T', L', k', n'⟩, -, X', ⟨L, hQ, l1, l2, l3⟩, st⟩ := X.specialBack hx (y := y) hy1 hown (mvT hZ w1) (mvT hZ w2) (mvT hZ w4) hy (backOf (W := W) (M []) hZ w4 w3 hf hl) hg hsize (Steps.refl _) (a := a) (argsL := argsL) (rest := rest) hlen hs hW hd (fun _ _ => ⟨rfl, eT, hc, hsl⟩)
  dsimp only [Pt.U, Pt.locs, Pt.cells, Pt.slots] at X' l1 l2 l3 st hQ
  subst l1 l2 l3
  exact ⟨v, T', L, X', hQ, fun _ k => st.trans k⟩
theorem own_callVi {y z : MethodName} {bytes : ByteArray} {maxL : Nat} {ret : Option FieldType} {rm : Room} {Q : Option Value → Heap → List Loc → Prop} {C : String} (X : Stand p l e R s m args below meth c T locs cells slots) (hx : p.tables.exec = Jvm.exec) (hZ : Z.Warmed39 s.vm) {own : String} {index : Nat} (hown : s.vm.findClass own = some m.cls)
    (w1 : (Jvm.Cond.methodLink own index y).before a0 Z = true) (w2 : (Jvm.Cond.declares y).before a0 Z = true) (nf : NotFace s y) (w5 : (Jvm.Cond.selects C y z).before a0 Z = true) (w6 : (Jvm.Cond.instanceMethod z).before a0 Z = true) (w3 : (Jvm.Cond.initialized z.cls).before a0 Z = true) (w4 : (Jvm.Cond.code z bytes maxL ret).before a0 Z = true) (hy : y.cls ≠ "java/lang/invoke/MethodHandle" ∧ y.cls ≠ "java/lang/invoke/VarHandle") (E : Exa Z h a C) {argsL rest : List Value}
    (M : own_Met l Z z bytes maxL ret rm (.ref a :: argsL).toArray h Q) (eT : T.heap = h) {W : Nat} (hf : rm.frames + 1 ≤ R.frames) (hl : W + (maxL + 11) + rm.locals ≤ R.locals) {g : JFrame} (hg : g.method = m) (hsize : g.locals.size = c.maxLocals) (hlen : ∀ sig, parseMethodDescriptor y.desc = some sig → argsL.length = sig.parameters.length) (hs : g.stack = argsL.reverse ++ .ref a :: rest) (hW : 2 * g.monitorRoom + (rest.map fun v => v.category).sum ≤ W) (hd : decode c.code g.pc = .ok (.invokevirtual index, 3)) (hc : cells + rm.cells ≤ R.cells) (hsl : slots + rm.slots ≤ R.slots) :
    ∃ v T' L, Stand p l e R s m args below meth c T' (locs ++ L) (cells + rm.cells) (slots + rm.slots) ∧ Q v T'.heap L ∧ ∀ target, Steps p.tables e below (T'.setTop { g with pc := g.pc + 3, stack := v.toList ++ rest }) target → Steps p.tables e below (T.setTop g) target := by
  obtain ⟨cq, kq, qa, qb, qc⟩ := isOf hZ eT E
  obtain ⟨v, _, ⟨T', L', k', n'⟩, -, X', ⟨L, hQ, l1, l2, l3⟩, st⟩ := X.virtualBack hx (y := y) (z := z) hown (mvT hZ w1) (mvT hZ w2) nf (mvT hZ w5) (mvT hZ w6) hy (backOf (W := W) (M []) hZ w4 w3 hf hl) qa qc hg hsize (Steps.refl _) (argsL := argsL) (rest := rest) hlen hs hW hd (fun _ _ => ⟨rfl, eT, hc, hsl⟩)
  dsimp only [Pt.U, Pt.locs, Pt.cells, Pt.slots] at X' l1 l2 l3 st hQ
  subst l1 l2 l3
  exact ⟨v, T', L, X', hQ, fun _ k => st.trans k⟩
/-- the whole contents of an array -/
def own_Av (Z : State) (h : Heap) (a : Addr) (ty : FieldType) (vs : List Value) : Prop := ∃ c : Cell, Arr Z h a c ty ∧ c.slots = vs.toArray ∧ vs.length < 2 ^ 31
theorem own_Av.lt (F : own_Av Z h a ty vs) : a < h.size := by obtain ⟨c, A, -⟩ := F; exact A.lt
theorem own_Av.ext (F : own_Av Z h a ty vs) (E : Ext h h') : own_Av Z h' a ty vs := by obtain ⟨c, A, r⟩ := F; exact ⟨c, A.ext E, r⟩
theorem own_Av.other (F : own_Av Z h b ty vs) (W : Wr h h' a sl v) (q : b ≠ a) : own_Av Z h' b ty vs := by obtain ⟨c, A, r⟩ := F; exact ⟨c, A.other W q, r⟩
theorem own_Av.keep (F : own_Av Z h a ty vs) (K : Keep h h' ws) (q : a ∉ ws) : own_Av Z h' a ty vs := by obtain ⟨c, A, r⟩ := F; exact ⟨c, ⟨K.2.1 a c A.1 q, A.2⟩, r⟩
theorem own_Av.len (F : own_Av Z h a ty vs) : vs.length < 2 ^ 31 := by obtain ⟨c, A, r, q⟩ := F; exact q
theorem own_Av.new {k : ClassId} {z : Int32} (A : Arr Z h a (newA k ty z) ty) : own_Av Z h a ty (List.replicate z.toNatClampNeg (defaultValue ty)) := ⟨_, A, by simp [newA], by rw [List.length_replicate]; have := z.toInt_lt; simp only [Int32.toNatClampNeg]; omega⟩
theorem own_Av.set (F : own_Av Z h a ty vs) {j : Nat} (W : Wr h h' a j v) : own_Av Z h' a ty (vs.set j v) := by
  obtain ⟨c, A, r, q⟩ := F
  refine ⟨_, A.same W, ?_, by rw [List.length_set]; exact q⟩
  simp [Cell.setSlot, r]
theorem own_in {c : Cell} {j : Int32} (r : c.slots = vs.toArray) (hj : ¬ j < 0) (hl : j.toNatClampNeg < vs.length) : ¬ (j < 0 ∨ c.slots.size ≤ j.toNatClampNeg) := by
  rw [r]; simp; exact ⟨Int32.not_lt.mp hj, hl⟩
theorem own_lt_of {α : Type} {vs : List α} {j : Nat} {v : α} (q : vs[j]? = some v) : j < vs.length := (List.getElem?_eq_some_iff.mp q).1
theorem own_ldI (X : Stand p l e R s m args below meth c T locs cells slots) (hx : p.tables.exec = Jvm.exec) (hZ : Z.Warmed39 s.vm) (eT : T.heap = h) (F : own_Av Z h a .int vs) {j : Int32} (hj : ¬ j < 0) (hv : vs[j.toNatClampNeg]? = some v) {g : JFrame} (hg : g.method = m) {rest : List Value} (hs : g.stack = .int j :: .ref a :: rest) (hd : decode c.code g.pc = .ok (.iaload, 1)) :
    ∀ target, Steps p.tables e below (T.setTop { g with pc := g.pc + 1, stack := v :: rest }) target → Steps p.tables e below (T.setTop g) target := by
  obtain ⟨cl, A, r, -⟩ := F
  exact X.iaload hx (j := j) (v := v) (by rw [eT]; exact A.1) (State.isArrayOf_alike hZ.alike A.2.1) A.2.2 (own_in r hj (own_lt_of hv)) (by rw [r]; simpa using hv) hg hs hd
theorem own_ldJ (X : Stand p l e R s m args below meth c T locs cells slots) (hx : p.tables.exec = Jvm.exec) (hZ : Z.Warmed39 s.vm) (eT : T.heap = h) (F : own_Av Z h a .long vs) {j : Int32} (hj : ¬ j < 0) (hv : vs[j.toNatClampNeg]? = some v) {g : JFrame} (hg : g.method = m) {rest : List Value} (hs : g.stack = .int j :: .ref a :: rest) (hd : decode c.code g.pc = .ok (.laload, 1)) :
    ∀ target, Steps p.tables e below (T.setTop { g with pc := g.pc + 1, stack := v :: rest }) target → Steps p.tables e below (T.setTop g) target := by
  obtain ⟨cl, A, r, -⟩ := F
  exact X.laload hx (j := j) (v := v) (by rw [eT]; exact A.1) (State.isArrayOf_alike hZ.alike A.2.1) A.2.2 (own_in r hj (own_lt_of hv)) (by rw [r]; simpa using hv) hg hs hd
theorem own_ldB (X : Stand p l e R s m args below meth c T locs cells slots) (hx : p.tables.exec = Jvm.exec) (hZ : Z.Warmed39 s.vm) (eT : T.heap = h) (F : own_Av Z h a .byte vs) {j : Int32} (hj : ¬ j < 0) (hv : vs[j.toNatClampNeg]? = some v) {g : JFrame} (hg : g.method = m) {rest : List Value} (hs : g.stack = .int j :: .ref a :: rest) (hd : decode c.code g.pc = .ok (.baload, 1)) :
    ∀ target, Steps p.tables e below (T.setTop { g with pc := g.pc + 1, stack := v :: rest }) target → Steps p.tables e below (T.setTop g) target := by
  obtain ⟨cl, A, r, -⟩ := F
  exact X.baloadBytes hx (j := j) (v := v) (by rw [eT]; exact A.1) (State.isArrayOf_alike hZ.alike A.2.1) A.2.2 (own_in r hj (own_lt_of hv)) (by rw [r]; simpa using hv) hg hs hd
theorem own_ldZ (X : Stand p l e R s m args below meth c T locs cells slots) (hx : p.tables.exec = Jvm.exec) (hZ : Z.Warmed39 s.vm) (eT : T.heap = h) (F : own_Av Z h a .boolean vs) {j : Int32} (hj : ¬ j < 0) (hv : vs[j.toNatClampNeg]? = some v) {g : JFrame} (hg : g.method = m) {rest : List Value} (hs : g.stack = .int j :: .ref a :: rest) (hd : decode c.code g.pc = .ok (.baload, 1)) :
    ∀ target, Steps p.tables e below (T.setTop { g with pc := g.pc + 1, stack := v :: rest }) target → Steps p.tables e below (T.setTop g) target := by
  obtain ⟨cl, A, r, -⟩ := F
  exact X.baloadBooleans hx (j := j) (v := v) (by rw [eT]; exact A.1) (State.isArrayOf_alike hZ.alike A.2.1) A.2.2 (own_in r hj (own_lt_of hv)) (by rw [r]; simpa using hv) hg hs hd
theorem own_alen (X : Stand p l e R s m args below meth c T locs cells slots) (hx : p.tables.exec = Jvm.exec) (hZ : Z.Warmed39 s.vm) (eT : T.heap = h) (F : own_Av Z h a ty vs) {n : Int32} (hn : vs.length.toInt32 = n) {g : JFrame} (hg : g.method = m) {rest : List Value} (hs : g.stack = .ref a :: rest) (hd : decode c.code g.pc = .ok (.arraylength, 1)) :
    ∀ target, Steps p.tables e below (T.setTop { g with pc := g.pc + 1, stack := .int n :: rest }) target → Steps p.tables e below (T.setTop g) target := by
  obtain ⟨cl, A, r, -⟩ := F
  have q := X.arraylength hx (by rw [eT]; exact A.1) (State.isArrayOf_alike hZ.alike A.2.1) hg hs hd
  have e1 : cl.slots.size.toInt32 = n := by rw [r]; simpa using hn
  rw [e1] at q; exact q
theorem own_stI (X : Stand p l e R s m args below meth c T locs cells slots) (hx : p.tables.exec = Jvm.exec) (hZ : Z.Warmed39 s.vm) (eT : T.heap = h) (F : own_Av Z h a .int vs) {j x : Int32} (hj : ¬ j < 0) (hl : j.toNatClampNeg < vs.length) {g : JFrame} (hg : g.method = m) {rest : List Value} (hs : g.stack = .int x :: .int j :: .ref a :: rest) (hd : decode c.code g.pc = .ok (.iastore, 1)) :
    ∃ T' h', Stand p l e R s m args below meth c T' (locs ++ [⟨a, j.toNatClampNeg⟩]) cells slots ∧ T'.heap = h' ∧ Wr h h' a j.toNatClampNeg (.int x) ∧ own_Av Z h' a .int (vs.set j.toNatClampNeg (.int x)) ∧ ∀ target, Steps p.tables e below (T'.setTop { g with pc := g.pc + 1, stack := rest }) target → Steps p.tables e below (T.setTop g) target := by
  obtain ⟨cl, A, r, q⟩ := F
  obtain ⟨T', h', X', e', W, st⟩ := stI X hx hZ eT A (own_in r hj hl) hg hs hd
  exact ⟨T', h', X', e', W, own_Av.set ⟨cl, A, r, q⟩ W, st⟩
theorem own_stJ (X : Stand p l e R s m args below meth c T locs cells slots) (hx : p.tables.exec = Jvm.exec) (hZ : Z.Warmed39 s.vm) (eT : T.heap = h) (F : own_Av Z h a .long vs) {j : Int32} {x : Int64} (hj : ¬ j < 0) (hl : j.toNatClampNeg < vs.length) {g : JFrame} (hg : g.method = m) {rest : List Value} (hs : g.stack = .long x :: .int j :: .ref a :: rest) (hd : decode c.code g.pc = .ok (.lastore, 1)) :
    ∃ T' h', Stand p l e R s m args below meth c T' (locs ++ [⟨a, j.toNatClampNeg⟩]) cells slots ∧ T'.heap = h' ∧ Wr h h' a j.toNatClampNeg (.long x) ∧ own_Av Z h' a .long (vs.set j.toNatClampNeg (.long x)) ∧ ∀ target, Steps p.tables e below (T'.setTop { g with pc := g.pc + 1, stack := rest }) target → Steps p.tables e below (T.setTop g) target := by
  obtain ⟨cl, A, r, q⟩ := F
  obtain ⟨T', h', X', e', W, st⟩ := stJ X hx hZ eT A (own_in r hj hl) hg hs hd
  exact ⟨T', h', X', e', W, own_Av.set ⟨cl, A, r, q⟩ W, st⟩
theorem own_stB (X : Stand p l e R s m args below meth c T locs cells slots) (hx : p.tables.exec = Jvm.exec) (hZ : Z.Warmed39 s.vm) (eT : T.heap = h) (F : own_Av Z h a .byte vs) {j x : Int32} (hj : ¬ j < 0) (hl : j.toNatClampNeg < vs.length) {g : JFrame} (hg : g.method = m) {rest : List Value} (hs : g.stack = .int x :: .int j :: .ref a :: rest) (hd : decode c.code g.pc = .ok (.bastore, 1)) :
    ∃ T' h', Stand p l e R s m args below meth c T' (locs ++ [⟨a, j.toNatClampNeg⟩]) cells slots ∧ T'.heap = h' ∧ Wr h h' a j.toNatClampNeg (.int x.toInt8.toInt32) ∧ own_Av Z h' a .byte (vs.set j.toNatClampNeg (.int x.toInt8.toInt32)) ∧ ∀ target, Steps p.tables e below (T'.setTop { g with pc := g.pc + 1, stack := rest }) target → Steps p.tables e below (T.setTop g) target := by
  obtain ⟨cl, A, r, q⟩ := F
  obtain ⟨T', h', X', e', W, st⟩ := stB X hx hZ eT A (own_in r hj hl) hg hs hd
  exact ⟨T', h', X', e', W, own_Av.set ⟨cl, A, r, q⟩ W, st⟩
theorem own_stZ (X : Stand p l e R s m args below meth c T locs cells slots) (hx : p.tables.exec = Jvm.exec) (hZ : Z.Warmed39 s.vm) (eT : T.heap = h) (F : own_Av Z h a .boolean vs) {j x : Int32} (hj : ¬ j < 0) (hl : j.toNatClampNeg < vs.length) {g : JFrame} (hg : g.method = m) {rest : List Value} (hs : g.stack = .int x :: .int j :: .ref a :: rest) (hd : decode c.code g.pc = .ok (.bastore, 1)) :
    ∃ T' h', Stand p l e R s m args below meth c T' (locs ++ [⟨a, j.toNatClampNeg⟩]) cells slots ∧ T'.heap = h' ∧ Wr h h' a j.toNatClampNeg (.int (x &&& 1)) ∧ own_Av Z h' a .boolean (vs.set j.toNatClampNeg (.int (x &&& 1))) ∧ ∀ target, Steps p.tables e below (T'.setTop { g with pc := g.pc + 1, stack := rest }) target → Steps p.tables e below (T.setTop g) target := by
  obtain ⟨cl, A, r, q⟩ := F
  obtain ⟨T', h', X', e', W, st⟩ := stZ X hx hZ eT A (own_in r hj hl) hg hs hd
  exact ⟨T', h', X', e', W, own_Av.set ⟨cl, A, r, q⟩ W, st⟩
theorem own_len {t : Term} {n : Int32} {cl : Cell} (q : (Jvm.Cond.eq (.length t) (.int n)).value args s none s [] = some true) (ht : t.eval args s none [] s = some (.ref a)) (A : Arr s s.heap a cl ty) (hn : ¬ n < 0) : cl.slots.size = n.toNatClampNeg := by
  have ha := Arr.fin (State.Warmed39.refl s).alike A
  by_cases hl : cl.slots.size < 2 ^ 31
  · have e1 := len_f (t := t) ht ha hl
    have e2 : cl.slots.size.toInt32 = n := by
      simp only [Cond.value, e1] at q
      simpa [Term.eval] using q
    rw [← e2]
    simp only [Int32.toNatClampNeg, len_toInt hl]; rfl
  · exfalso
    have e1 : (Term.length t).eval args s none [] s = none := by
      have hl' : ¬ cl.slots.size < 2147483648 := hl
      simp [Term.eval, ht, ha, hl']
    simp [Cond.value, e1] at q
theorem own_elemJ {t : Term} {j : Int32} {v : Int64} {cl : Cell} (q : (Jvm.Cond.eq (.elem t (.int j)) (.long v)).value args s none s [] = some true) (ht : t.eval args s none [] s = some (.ref a)) (A : Arr s s.heap a cl ty) : cl.slots[j.toNatClampNeg]? = some (.long v) := by
  cases e1 : (Term.elem t (.int j)).eval args s none [] s with
  | none => simp [Cond.value, e1] at q
  | some x =>
    have e2 := (elem_in e1 ht rfl A.1).2
    rw [e2]
    simp only [Cond.value, e1] at q
    cases x <;> simp [Term.eval] at q
    rw [q]
theorem own_elemI {t : Term} {j : Int32} {v : Int32} {cl : Cell} (q : (Jvm.Cond.eq (.elem t (.int j)) (.int v)).value args s none s [] = some true) (ht : t.eval args s none [] s = some (.ref a)) (A : Arr s s.heap a cl ty) : cl.slots[j.toNatClampNeg]? = some (.int v) := by
  cases e1 : (Term.elem t (.int j)).eval args s none [] s with
  | none => simp [Cond.value, e1] at q
  | some x =>
    have e2 := (elem_in e1 ht rfl A.1).2
    rw [e2]
    simp only [Cond.value, e1] at q
    cases x <;> simp [Term.eval] at q
    rw [q]
theorem own_Av.of {cl : Cell} (A : Arr Z h a cl ty) (hs : cl.slots.size = vs.length) (hv : ∀ i, i < vs.length → cl.slots[i]? = vs[i]?) (hl : vs.length < 2 ^ 31) : own_Av Z h a ty vs := by
  refine ⟨cl, A, ?_, hl⟩
  apply Array.ext
  · simpa using hs
  · intro i h1 h2
    have h3 : i < vs.length := by rw [← hs]; exact h1
    have := hv i h3
    rw [Array.getElem?_eq_getElem h1, List.getElem?_eq_getElem h3] at this
    simpa using this
theorem own_Sta.keep0 {C n d : String} (F : Sta Z h C n d v) (K : Keep h h' []) : Sta Z h' C n d v := by
  obtain ⟨cf, i, k, f, st, cell, h1, h2, h3, h4, h5, r⟩ := F; exact ⟨cf, i, k, f, st, cell, h1, h2, h3, h4, K.2.1 _ _ h5 nin0, r⟩
theorem own_fldJ {t : Term} {C n d : String} {z : Int64} (q : (Jvm.Cond.eq (.field t C n d) (.long z)).value args s none s [] = some true) (ht : t.eval args s none [] s = some (.ref a)) : Fld s s.heap a C n d (.long z) := by
  have e0 := fld_at (C := C) (n := n) (dd := d) ht
  refine Fld.start ?_
  cases e1 : s.fieldOf? a C n d with
  | none => rw [e1] at e0; simp [Cond.value, e0] at q
  | some x =>
    rw [e1] at e0
    simp only [Cond.value, e0] at q
    cases x <;> simp [Term.eval] at q
    rw [q]
theorem own_cloneI (X : Stand p l e R s m args below meth c T locs cells slots) (hx : p.tables.exec = Jvm.exec) (hZ : Z.Warmed39 s.vm) {own : String} {index : Nat} (hown : s.vm.findClass own = some m.cls)
    (w1 : (Jvm.Cond.methodLink own index ⟨"[I", "clone", "()Ljava/lang/Object;"⟩).before a0 Z = true) (w2 : (Jvm.Cond.sameMethod "[I" "java/lang/Object" "clone" "()Ljava/lang/Object;").before a0 Z = true) (w3 : (Jvm.Cond.native ⟨"java/lang/Object", "clone", "()Ljava/lang/Object;"⟩).before a0 Z = true)
    (w4 : (Jvm.Cond.instanceMethod ⟨"java/lang/Object", "clone", "()Ljava/lang/Object;"⟩).before a0 Z = true) (w5 : (Jvm.Cond.selects "[I" ⟨"[I", "clone", "()Ljava/lang/Object;"⟩ ⟨"java/lang/Object", "clone", "()Ljava/lang/Object;"⟩).before a0 Z = true) (w6 : (Jvm.Cond.castable "[I" "java/lang/Cloneable").before a0 Z = true)
    (eT : T.heap = h) {I : List Int32} (F : own_Av Z h a .int (I.map Value.int)) (E : Exa Z h a "[I") {g : JFrame} (hg : g.method = m) (hsize : g.locals.size = c.maxLocals) {rest : List Value} (hs : g.stack = .ref a :: rest) (hd : decode c.code g.pc = .ok (.invokevirtual index, 3))
    (hf : 1 ≤ R.frames) {W cap : Nat} (hW : 2 * g.monitorRoom + (rest.map fun v => v.category).sum ≤ W) (hl : W + 14 ≤ R.locals) (hcap : I.length ≤ cap) (hc : cells + 1 ≤ R.cells) (hsl : slots + cap ≤ R.slots) :
    ∃ T' h', Stand p l e R s m args below meth c T' locs (cells + 1) (slots + cap) ∧ T'.heap = h' ∧ Ext h h' ∧ own_Av Z h' h.size .int (I.map Value.int) ∧ Exa Z h' h.size "[I" ∧
      ∀ target, Steps p.tables e below (T'.setTop { g with pc := g.pc + 3, stack := .ref h.size :: rest }) target → Steps p.tables e below (T.setTop g) target := by
  obtain ⟨cl, A, r, q⟩ := F
  have FC : FitC Z cl := fitC_of A fun i hi v hv => by
    rw [r] at hv
    simp only [List.getElem?_toArray, List.getElem?_map, Option.map_eq_some_iff] at hv
    obtain ⟨z, -, rfl⟩ := hv
    rfl
  obtain ⟨T', h', X', e', ex, A', E', st⟩ := cloneA X hx hZ hown w1 w2 w3 w4 w5 w6 eT A E FC hg hsize hs hd hf hW hl (by rw [r]; simpa using hcap) hc hsl
  exact ⟨T', h', X', e', ex, ⟨cloneOf cl, A', r, q⟩, E', st⟩
theorem own_callPr {y y' : MethodName} {bytes : ByteArray} {maxL : Nat} {ret : Option FieldType} {rm : Room} {Q : Option Value → Heap → List Loc → Prop} (X : Stand p l e R s m args below meth c T locs cells slots) (hx : p.tables.exec = Jvm.exec) (hZ : Z.Warmed39 s.vm) {own : String} {index : Nat} (hown : s.vm.findClass own = some m.cls)
    (w1 : (Jvm.Cond.methodLink own index y).before a0 Z = true) (w2 : (Jvm.Cond.privateMethod y).before a0 Z = true) (w6 : (Jvm.Cond.instanceMethod y).before a0 Z = true) (w3 : (Jvm.Cond.initialized y.cls).before a0 Z = true) (w4 : (Jvm.Cond.code y bytes maxL ret).before a0 Z = true) (w7 : (Jvm.Cond.selects y.cls y' y').before a0 Z = true) (w8 : (Jvm.Cond.instanceMethod y').before a0 Z = true) (hcl : y'.cls = y.cls) (hy : y.cls ≠ "java/lang/invoke/MethodHandle" ∧ y.cls ≠ "java/lang/invoke/VarHandle") {C : String} (E : Exa Z h a C) {argsL rest : List Value}
    (M : own_Met l Z y bytes maxL ret rm (.ref a :: argsL).toArray h Q) (eT : T.heap = h) {W : Nat} (hf : rm.frames + 1 ≤ R.frames) (hl : W + (maxL + 11) + rm.locals ≤ R.locals) {g : JFrame} (hg : g.method = m) (hsize : g.locals.size = c.maxLocals) (hlen : ∀ sig, parseMethodDescriptor y.desc = some sig → argsL.length = sig.parameters.length) (hs : g.stack = argsL.reverse ++ .ref a :: rest) (hW : 2 * g.monitorRoom + (rest.map fun v => v.category).sum ≤ W) (hd : decode c.code g.pc = .ok (.invokevirtual index, 3)) (hc : cells + rm.cells ≤ R.cells) (hsl : slots + rm.slots ≤ R.slots) :
    ∃ v T' L, Stand p l e R s m args below meth c T' (locs ++ L) (cells + rm.cells) (slots + rm.slots) ∧ Q v T'.heap L ∧ ∀ target, Steps p.tables e below (T'.setTop { g with pc := g.pc + 3, stack := v.toList ++ rest }) target → Steps p.tables e below (T.setTop g) target := by
  obtain ⟨cq, qa, qb⟩ := E.cell
  have nf := notFace_of_selects (args := #[]) (mvT hZ w7)
  obtain ⟨mk', meth', hn', -⟩ := Cond.instanceMethod_spec (mvT (args := #[]) hZ w8)
  obtain ⟨k', hk', hni⟩ := nf mk' hn'
  have hc' := findClass_of_methodNamed hn'
  rw [hcl] at hc'
  have hpriv := Cond.privateMethod_at (mvP hZ w2 (args := #[]))
  have hsel := selects_self_of_private (args := args) hc' hk' hni hpriv (mvT hZ w6) hy
  obtain ⟨v, _, ⟨T', L', k', n'⟩, -, X', ⟨L, hQ, l1, l2, l3⟩, st⟩ := X.privateBack hx (y := y) hown (mvT hZ w1) (mvT hZ w6) hsel hpriv (mvT hZ w4) hy (backOf (W := W) (M []) hZ w4 w3 hf hl) hg hsize (Steps.refl _) (a := a) (by rw [eT]; exact qa) qb (argsL := argsL) (rest := rest) hlen hs hW hd (fun _ _ => ⟨rfl, eT, hc, hsl⟩)
  dsimp only [Pt.U, Pt.locs, Pt.cells, Pt.slots] at X' l1 l2 l3 st hQ
  subst l1 l2 l3
  exact ⟨v, T', L, X', hQ, fun _ k => st.trans k⟩
theorem own_clone {ad : String} (X : Stand p l e R s m args below meth c T locs cells slots) (hx : p.tables.exec = Jvm.exec) (hZ : Z.Warmed39 s.vm) {own : String} {index : Nat} (hown : s.vm.findClass own = some m.cls)
    (w1 : (Jvm.Cond.methodLink own index ⟨ad, "clone", "()Ljava/lang/Object;"⟩).before a0 Z = true) (w2 : (Jvm.Cond.sameMethod ad "java/lang/Object" "clone" "()Ljava/lang/Object;").before a0 Z = true) (w3 : (Jvm.Cond.native ⟨"java/lang/Object", "clone", "()Ljava/lang/Object;"⟩).before a0 Z = true)
    (w4 : (Jvm.Cond.instanceMethod ⟨"java/lang/Object", "clone", "()Ljava/lang/Object;"⟩).before a0 Z = true) (w5 : (Jvm.Cond.selects ad ⟨ad, "clone", "()Ljava/lang/Object;"⟩ ⟨"java/lang/Object", "clone", "()Ljava/lang/Object;"⟩).before a0 Z = true) (w6 : (Jvm.Cond.castable ad "java/lang/Cloneable").before a0 Z = true)
    (eT : T.heap = h) (F : own_Av Z h a ty vs) (hfit : ∀ v ∈ vs, fits ty v = true) (E : Exa Z h a ad) {g : JFrame} (hg : g.method = m) (hsize : g.locals.size = c.maxLocals) {rest : List Value} (hs : g.stack = .ref a :: rest) (hd : decode c.code g.pc = .ok (.invokevirtual index, 3))
    (hf : 1 ≤ R.frames) {W cap : Nat} (hW : 2 * g.monitorRoom + (rest.map fun v => v.category).sum ≤ W) (hl : W + 14 ≤ R.locals) (hcap : vs.length ≤ cap) (hc : cells + 1 ≤ R.cells) (hsl : slots + cap ≤ R.slots) :
    ∃ T' h', Stand p l e R s m args below meth c T' locs (cells + 1) (slots + cap) ∧ T'.heap = h' ∧ Ext h h' ∧ own_Av Z h' h.size ty vs ∧ Exa Z h' h.size ad ∧
      ∀ target, Steps p.tables e below (T'.setTop { g with pc := g.pc + 3, stack := .ref h.size :: rest }) target → Steps p.tables e below (T.setTop g) target := by
  obtain ⟨cl, A, r, q⟩ := F
  have FC : FitC Z cl := fitC_of A fun i hi v hv => by
    rw [r] at hv
    simp only [List.getElem?_toArray] at hv
    exact hfit v (List.mem_of_getElem? hv)
  obtain ⟨T', h', X', e', ex, A', E', st⟩ := cloneA X hx hZ hown w1 w2 w3 w4 w5 w6 eT A E FC hg hsize hs hd hf hW hl (by rw [r]; simpa using hcap) hc hsl
  exact ⟨T', h', X', e', ex, ⟨cloneOf cl, A', r, q⟩, E', st⟩
theorem own_Av.arv (F : own_Av Z h a ty vs) {dv : Value} (hfit : ∀ v ∈ vs, fits ty v = true) : ∃ k, Arv Z h a k ty vs.length.toInt32 vs dv := by
  obtain ⟨cl, A, r, q⟩ := F
  have e1 : vs.length.toInt32.toNatClampNeg = vs.length := by simp only [Int32.toNatClampNeg, len_toInt q]; rfl
  have hs : cl.slots.size = vs.length := by rw [r]; simp
  refine ⟨cl.cls, cl, A, rfl, by rw [e1, hs], ?_, fun k hk => ?_, fun i hi => ?_⟩
  · rw [Int32.lt_iff_toInt_lt, len_toInt q]; have : (0 : Int32).toInt = 0 := by decide
    omega
  · rw [hs] at hk; rw [r]; simp [List.getD_eq_getElem?_getD, List.getElem?_eq_getElem hk]
  · rw [hs] at hi
    have : vs.getD i dv = vs[i] := by simp [List.getD_eq_getElem?_getD, List.getElem?_eq_getElem hi]
    rw [this]; exact hfit _ (List.getElem_mem hi)
theorem own_stC (X : Stand p l e R s m args below meth c T locs cells slots) (hx : p.tables.exec = Jvm.exec) (hZ : Z.Warmed39 s.vm) (eT : T.heap = h) (F : own_Av Z h a .char vs) {j x : Int32} (hj : ¬ j < 0) (hl : j.toNatClampNeg < vs.length) {g : JFrame} (hg : g.method = m) {rest : List Value} (hs : g.stack = .int x :: .int j :: .ref a :: rest) (hd : decode c.code g.pc = .ok (.castore, 1)) :
    ∃ T' h', Stand p l e R s m args below meth c T' (locs ++ [⟨a, j.toNatClampNeg⟩]) cells slots ∧ T'.heap = h' ∧ Wr h h' a j.toNatClampNeg (.int x.toUInt32.toUInt16.toUInt32.toInt32) ∧ own_Av Z h' a .char (vs.set j.toNatClampNeg (.int x.toUInt32.toUInt16.toUInt32.toInt32)) ∧ ∀ target, Steps p.tables e below (T'.setTop { g with pc := g.pc + 1, stack := rest }) target → Steps p.tables e below (T.setTop g) target := by
  obtain ⟨cl, A, r, q⟩ := F
  obtain ⟨T', h', X', e', W, st⟩ := stC X hx hZ eT A (own_in r hj hl) hg hs hd
  exact ⟨T', h', X', e', W, own_Av.set ⟨cl, A, r, q⟩ W, st⟩
theorem own_ne_of (q : a < h.size) (r : h.size ≤ b) : a ≠ b := Nat.ne_of_lt (Nat.lt_of_lt_of_le q r)
end Own
def own_tb (i : Nat) : Int32 := if i = 45 ∨ i = 46 ∨ (48 ≤ i ∧ i < 58) ∨ (65 ≤ i ∧ i < 91) ∨ i = 95 ∨ (97 ≤ i ∧ i < 123) ∨ i = 126 then 1 else 0
def own_vs : List Value := (List.range 128).map fun i => Value.int (own_tb i)
theorem own_vs_len : own_vs.length.toInt32 = (128 : Int32) := by simp [own_vs]; rfl
theorem own_cn {j : Int32} (h : ¬ j < 0) : j.toInt = (j.toNatClampNeg : Int) := by
  rw [Int32.lt_iff_toInt_lt] at h
  have k0 : (0 : Int32).toInt = 0 := by decide
  simp only [Int32.toNatClampNeg]; omega
theorem own_vs_at (j : Int32) (h0 : ¬ j < 0) (h1 : j < (128 : Int32)) : own_vs[j.toNatClampNeg]? = some (.int (own_tb j.toNatClampNeg)) := by
  have e := own_cn h0
  rw [Int32.lt_iff_toInt_lt] at h1
  have k1 : (128 : Int32).toInt = 128 := by decide
  have h2 : j.toNatClampNeg < 128 := by omega
  simp [own_vs, List.getElem?_range h2]
theorem own_i2c_nn (x : Int32) : ¬ (x.toUInt32.toUInt16.toUInt32.toInt32) < 0 := by
  have := (c_i2c x).2.1
  have k0 : (0 : Int32).toInt = 0 := by decide
  rw [Int32.lt_iff_toInt_lt]; omega
theorem own_d1_0 : decode prog_29_method_7_code 0 = .ok (.iload_n 0, 1) := by decide +kernel
theorem own_d1_1 : decode prog_29_method_7_code 1 = .ok (.getstatic 122, 3) := by decide +kernel
theorem own_d1_4 : decode prog_29_method_7_code 4 = .ok (.arraylength, 1) := by decide +kernel
theorem own_d1_5 : decode prog_29_method_7_code 5 = .ok (.if_icmp .ge 15, 3) := by decide +kernel
theorem own_d1_8 : decode prog_29_method_7_code 8 = .ok (.getstatic 122, 3) := by decide +kernel
theorem own_d1_11 : decode prog_29_method_7_code 11 = .ok (.iload_n 0, 1) := by decide +kernel
theorem own_d1_12 : decode prog_29_method_7_code 12 = .ok (.baload, 1) := by decide +kernel
theorem own_d1_13 : decode prog_29_method_7_code 13 = .ok (.ifCond .eq 7, 3) := by decide +kernel
theorem own_d1_16 : decode prog_29_method_7_code 16 = .ok (.iconst 1, 1) := by decide +kernel
theorem own_d1_17 : decode prog_29_method_7_code 17 = .ok (.goto 4, 3) := by decide +kernel
theorem own_d1_20 : decode prog_29_method_7_code 20 = .ok (.iconst 0, 1) := by decide +kernel
theorem own_d1_21 : decode prog_29_method_7_code 21 = .ok (.ireturn, 1) := by decide +kernel
theorem own_pn0 : plainName "com/example/countersign/countersign/PercentEncoding" = true := by first | (simp [plainName, overriddenIn]; done) | decide +kernel
def own_isU (x0 : Int32) : Int32 := (if x0 < (128 : Int32) then (if (own_tb x0.toNatClampNeg) = (0 : Int32) then (0 : Int32) else (1 : Int32)) else (0 : Int32))
theorem own_mt1_ef (m : MethodId) (x0 : Int32) : entryFrame m #[(.int x0)] 1 = mkF m 0 #[.val (.int x0)] [] := by first | rfl | (simp [entryFrame, mkF, argsToLocals, Value.category]; done)
set_option maxRecDepth 65536 in
set_option maxHeartbeats 40000000 in
theorem own_mt1 (l : Launch) (Z : State) (a0 : Array Value) (hw : ∀ d ∈ tables_1, d.before a0 Z = true) (x0 : Int32) (un : Addr) (h0 : Heap) (S_un : Sta Z h0 "com/example/countersign/countersign/PercentEncoding" "UNRESERVED" "[Z" (.ref un)) (V_un : own_Av Z h0 un .boolean (own_vs)) (hnn : ¬ x0 < 0) :
    own_Met l Z (⟨"com/example/countersign/countersign/PercentEncoding", "isUnreserved", "(C)Z"⟩ : MethodName) prog_29_method_7_code 1 (some .boolean) ({ frames := 0, cells := 0, slots := 0, locals := 0 } : Room) #[(.int x0)] h0 (fun v h L => v = some (.int (own_isU x0)) ∧ h = h0 ∧ L = []) := by
  refine own_intro (plainFor_of_name own_pn0) ?_
  intro p e s m below meth c s₁ hx hby hml hown hnm hZ hret hlk X0 e0
  refine own_cast (own_mt1_ef m x0) ?_
  refine own_via (T' := s₁) (g' := (mkF m 1 #[.val (.int x0)] [(.int x0)])) (fun t k => XS.iloadN X0.here hx rfl (hb hby own_d1_0) rfl k) ?_
  obtain ⟨T1, X1, e1, st1⟩ := getS2 X0 hx hZ hown (host := "") (Or.inl (hw _ (List.mem_of_getElem? (i := 4) rfl))) Via.refl e0 S_un (g := (mkF m 1 #[.val (.int x0)] [(.int x0)])) rfl (hb hby own_d1_1)
  refine own_via (T' := T1) (g' := (mkF m 4 #[.val (.int x0)] [(.ref un), (.int x0)])) st1 ?_
  refine own_via (T' := T1) (g' := (mkF m 5 #[.val (.int x0)] [(.int (128 : Int32)), (.int x0)])) (own_alen X1 hx hZ e1 V_un (n := (128 : Int32)) own_vs_len (g := (mkF m 4 #[.val (.int x0)] [(.ref un), (.int x0)])) rfl rfl (hb hby own_d1_4)) ?_
  by_cases hc2 : x0 < (128 : Int32)
  · refine own_via (T' := T1) (g' := (mkF m 8 #[.val (.int x0)] [])) (fun t k => XS.icmpNo X1.here hx rfl (hb hby own_d1_5) rfl (tlt hc2).2.1 k) ?_
    obtain ⟨T3, X3, e3, st3⟩ := getS2 X1 hx hZ hown (host := "") (Or.inl (hw _ (List.mem_of_getElem? (i := 4) rfl))) Via.refl e1 S_un (g := (mkF m 8 #[.val (.int x0)] [])) rfl (hb hby own_d1_8)
    refine own_via (T' := T3) (g' := (mkF m 11 #[.val (.int x0)] [(.ref un)])) st3 ?_
    refine own_via (T' := T3) (g' := (mkF m 12 #[.val (.int x0)] [(.int x0), (.ref un)])) (fun t k => XS.iloadN X3.here hx rfl (hb hby own_d1_11) rfl k) ?_
    refine own_via (T' := T3) (g' := (mkF m 13 #[.val (.int x0)] [(.int (own_tb x0.toNatClampNeg))])) (own_ldZ X3 hx hZ e3 V_un (j := x0) (v := (.int (own_tb x0.toNatClampNeg))) hnn (own_vs_at _ hnn hc2) (g := (mkF m 12 #[.val (.int x0)] [(.int x0), (.ref un)])) rfl rfl (hb hby own_d1_12)) ?_
    by_cases hc4 : (own_tb x0.toNatClampNeg) = (0 : Int32)
    · refine own_via (T' := T3) (g' := (mkF m 21 #[.val (.int x0)] [(.int (0 : Int32))])) (fun t k => XS.ifYes X3.here hx rfl (pc0 := 13) (pc' := 20) rfl (hb hby own_d1_13) rfl ((if0 _ _).trans (teq hc4).1) (by decide) (by decide) (XS.iconst X3.here hx rfl (hb hby own_d1_20) k)) ?_
      refine own_retN X3 hx hlk (ty := .boolean) hret (by simp) (hb hby own_d1_21) (by decide) (by decide) ?_
      exact ⟨by rw [own_isU, if_pos hc2, if_pos hc4] <;> rfl, e3, rfl⟩
    · refine own_via (T' := T3) (g' := (mkF m 21 #[.val (.int x0)] [(.int (1 : Int32))])) (fun t k => XS.ifNo X3.here hx rfl (hb hby own_d1_13) rfl ((if0 _ _).trans (feq hc4).1) (XS.iconst X3.here hx rfl (hb hby own_d1_16) (XS.goto X3.here hx rfl (pc0 := 17) (pc' := 21) rfl (hb hby own_d1_17) (by decide) (by decide) k))) ?_
      refine own_retN X3 hx hlk (ty := .boolean) hret (by simp) (hb hby own_d1_21) (by decide) (by decide) ?_
      exact ⟨by rw [own_isU, if_pos hc2, if_neg hc4] <;> rfl, e3, rfl⟩
  · refine own_via (T' := T1) (g' := (mkF m 21 #[.val (.int x0)] [(.int (0 : Int32))])) (fun t k => XS.icmpYes X1.here hx rfl (pc0 := 5) (pc' := 20) rfl (hb hby own_d1_5) rfl (flt hc2).2.1 (by decide) (by decide) (XS.iconst X1.here hx rfl (hb hby own_d1_20) k)) ?_
    refine own_retN X1 hx hlk (ty := .boolean) hret (by simp) (hb hby own_d1_21) (by decide) (by decide) ?_
    exact ⟨by rw [own_isU, if_neg hc2] <;> rfl, e1, rfl⟩
theorem own_d2_0 : decode method_2_code 0 = .ok (.iload_n 0, 1) := by decide +kernel
theorem own_d2_1 : decode method_2_code 1 = .ok (.bipush 65, 2) := by decide +kernel
theorem own_d2_3 : decode method_2_code 3 = .ok (.if_icmp .lt 11, 3) := by decide +kernel
theorem own_d2_6 : decode method_2_code 6 = .ok (.iload_n 0, 1) := by decide +kernel
theorem own_d2_7 : decode method_2_code 7 = .ok (.bipush 90, 2) := by decide +kernel
theorem own_d2_9 : decode method_2_code 9 = .ok (.if_icmp .gt 5, 3) := by decide +kernel
theorem own_d2_12 : decode method_2_code 12 = .ok (.iconst 1, 1) := by decide +kernel
theorem own_d2_13 : decode method_2_code 13 = .ok (.ireturn, 1) := by decide +kernel
theorem own_d2_14 : decode method_2_code 14 = .ok (.iload_n 0, 1) := by decide +kernel
theorem own_d2_15 : decode method_2_code 15 = .ok (.bipush 97, 2) := by decide +kernel
theorem own_d2_17 : decode method_2_code 17 = .ok (.if_icmp .lt 11, 3) := by decide +kernel
theorem own_d2_20 : decode method_2_code 20 = .ok (.iload_n 0, 1) := by decide +kernel
theorem own_d2_21 : decode method_2_code 21 = .ok (.bipush 122, 2) := by decide +kernel
theorem own_d2_23 : decode method_2_code 23 = .ok (.if_icmp .gt 5, 3) := by decide +kernel
theorem own_d2_26 : decode method_2_code 26 = .ok (.iconst 1, 1) := by decide +kernel
theorem own_d2_27 : decode method_2_code 27 = .ok (.ireturn, 1) := by decide +kernel
theorem own_d2_28 : decode method_2_code 28 = .ok (.iload_n 0, 1) := by decide +kernel
theorem own_d2_29 : decode method_2_code 29 = .ok (.bipush 48, 2) := by decide +kernel
theorem own_d2_31 : decode method_2_code 31 = .ok (.if_icmp .lt 11, 3) := by decide +kernel
theorem own_d2_34 : decode method_2_code 34 = .ok (.iload_n 0, 1) := by decide +kernel
theorem own_d2_35 : decode method_2_code 35 = .ok (.bipush 57, 2) := by decide +kernel
theorem own_d2_37 : decode method_2_code 37 = .ok (.if_icmp .gt 5, 3) := by decide +kernel
theorem own_d2_40 : decode method_2_code 40 = .ok (.iconst 1, 1) := by decide +kernel
theorem own_d2_41 : decode method_2_code 41 = .ok (.ireturn, 1) := by decide +kernel
theorem own_d2_42 : decode method_2_code 42 = .ok (.iload_n 0, 1) := by decide +kernel
theorem own_d2_43 : decode method_2_code 43 = .ok (.bipush 45, 2) := by decide +kernel
theorem own_d2_45 : decode method_2_code 45 = .ok (.if_icmp .eq 21, 3) := by decide +kernel
theorem own_d2_48 : decode method_2_code 48 = .ok (.iload_n 0, 1) := by decide +kernel
theorem own_d2_49 : decode method_2_code 49 = .ok (.bipush 95, 2) := by decide +kernel
theorem own_d2_51 : decode method_2_code 51 = .ok (.if_icmp .eq 15, 3) := by decide +kernel
theorem own_d2_54 : decode method_2_code 54 = .ok (.iload_n 0, 1) := by decide +kernel
theorem own_d2_55 : decode method_2_code 55 = .ok (.bipush 46, 2) := by decide +kernel
theorem own_d2_57 : decode method_2_code 57 = .ok (.if_icmp .eq 9, 3) := by decide +kernel
theorem own_d2_60 : decode method_2_code 60 = .ok (.iload_n 0, 1) := by decide +kernel
theorem own_d2_61 : decode method_2_code 61 = .ok (.bipush 126, 2) := by decide +kernel
theorem own_d2_63 : decode method_2_code 63 = .ok (.if_icmp .ne 7, 3) := by decide +kernel
theorem own_d2_66 : decode method_2_code 66 = .ok (.iconst 1, 1) := by decide +kernel
theorem own_d2_67 : decode method_2_code 67 = .ok (.goto 4, 3) := by decide +kernel
theorem own_d2_70 : decode method_2_code 70 = .ok (.iconst 0, 1) := by decide +kernel
theorem own_d2_71 : decode method_2_code 71 = .ok (.ireturn, 1) := by decide +kernel
theorem own_pn1 : plainName "com/example/countersign/countersign/PercentEncodingIsUnreservedPinLaw" = true := by first | (simp [plainName, overriddenIn]; done) | decide +kernel
def own_ref (x0 : Int32) : Int32 := (if x0 < (65 : Int32) then (if x0 < (97 : Int32) then (if x0 < (48 : Int32) then (if x0 = (45 : Int32) then (1 : Int32) else (if x0 = (95 : Int32) then (1 : Int32) else (if x0 = (46 : Int32) then (1 : Int32) else (if x0 = (126 : Int32) then (1 : Int32) else (0 : Int32))))) else (if (57 : Int32) < x0 then (if x0 = (45 : Int32) then (1 : Int32) else (if x0 = (95 : Int32) then (1 : Int32) else (if x0 = (46 : Int32) then (1 : Int32) else (if x0 = (126 : Int32) then (1 : Int32) else (0 : Int32))))) else (1 : Int32))) else (if (122 : Int32) < x0 then (if x0 < (48 : Int32) then (if x0 = (45 : Int32) then (1 : Int32) else (if x0 = (95 : Int32) then (1 : Int32) else (if x0 = (46 : Int32) then (1 : Int32) else (if x0 = (126 : Int32) then (1 : Int32) else (0 : Int32))))) else (if (57 : Int32) < x0 then (if x0 = (45 : Int32) then (1 : Int32) else (if x0 = (95 : Int32) then (1 : Int32) else (if x0 = (46 : Int32) then (1 : Int32) else (if x0 = (126 : Int32) then (1 : Int32) else (0 : Int32))))) else (1 : Int32))) else (1 : Int32))) else (if (90 : Int32) < x0 then (if x0 < (97 : Int32) then (if x0 < (48 : Int32) then (if x0 = (45 : Int32) then (1 : Int32) else (if x0 = (95 : Int32) then (1 : Int32) else (if x0 = (46 : Int32) then (1 : Int32) else (if x0 = (126 : Int32) then (1 : Int32) else (0 : Int32))))) else (if (57 : Int32) < x0 then (if x0 = (45 : Int32) then (1 : Int32) else (if x0 = (95 : Int32) then (1 : Int32) else (if x0 = (46 : Int32) then (1 : Int32) else (if x0 = (126 : Int32) then (1 : Int32) else (0 : Int32))))) else (1 : Int32))) else (if (122 : Int32) < x0 then (if x0 < (48 : Int32) then (if x0 = (45 : Int32) then (1 : Int32) else (if x0 = (95 : Int32) then (1 : Int32) else (if x0 = (46 : Int32) then (1 : Int32) else (if x0 = (126 : Int32) then (1 : Int32) else (0 : Int32))))) else (if (57 : Int32) < x0 then (if x0 = (45 : Int32) then (1 : Int32) else (if x0 = (95 : Int32) then (1 : Int32) else (if x0 = (46 : Int32) then (1 : Int32) else (if x0 = (126 : Int32) then (1 : Int32) else (0 : Int32))))) else (1 : Int32))) else (1 : Int32))) else (1 : Int32)))
theorem own_mt2_ef (m : MethodId) (x0 : Int32) : entryFrame m #[(.int x0)] 1 = mkF m 0 #[.val (.int x0)] [] := by first | rfl | (simp [entryFrame, mkF, argsToLocals, Value.category]; done)
set_option maxRecDepth 65536 in
set_option maxHeartbeats 40000000 in
theorem own_mt2 (l : Launch) (Z : State) (a0 : Array Value) (hw : ∀ d ∈ tables_1, d.before a0 Z = true) (x0 : Int32) (h0 : Heap) :
    own_Met l Z (⟨"com/example/countersign/countersign/PercentEncodingIsUnreservedPinLaw", "reference", "(C)Z"⟩ : MethodName) method_2_code 1 (some .boolean) ({ frames := 0, cells := 0, slots := 0, locals := 0 } : Room) #[(.int x0)] h0 (fun v h L => v = some (.int (own_ref x0)) ∧ h = h0 ∧ L = []) := by
  refine own_intro (plainFor_of_name own_pn1) ?_
  intro p e s m below meth c s₁ hx hby hml hown hnm hZ hret hlk X0 e0
  refine own_cast (own_mt2_ef m x0) ?_
  refine own_via (T' := s₁) (g' := (mkF m 3 #[.val (.int x0)] [(.int (65 : Int32)), (.int x0)])) (fun t k => XS.iloadN X0.here hx rfl (hb hby own_d2_0) rfl (XS.bipush X0.here hx rfl (hb hby own_d2_1) k)) ?_
  by_cases hc1 : x0 < (65 : Int32)
  · refine own_via (T' := s₁) (g' := (mkF m 17 #[.val (.int x0)] [(.int (97 : Int32)), (.int x0)])) (fun t k => XS.icmpYes X0.here hx rfl (pc0 := 3) (pc' := 14) rfl (hb hby own_d2_3) rfl (tlt hc1).1 (by decide) (by decide) (XS.iloadN X0.here hx rfl (hb hby own_d2_14) rfl (XS.bipush X0.here hx rfl (hb hby own_d2_15) k))) ?_
    by_cases hc2 : x0 < (97 : Int32)
    · refine own_via (T' := s₁) (g' := (mkF m 31 #[.val (.int x0)] [(.int (48 : Int32)), (.int x0)])) (fun t k => XS.icmpYes X0.here hx rfl (pc0 := 17) (pc' := 28) rfl (hb hby own_d2_17) rfl (tlt hc2).1 (by decide) (by decide) (XS.iloadN X0.here hx rfl (hb hby own_d2_28) rfl (XS.bipush X0.here hx rfl (hb hby own_d2_29) k))) ?_
      by_cases hc3 : x0 < (48 : Int32)
      · refine own_via (T' := s₁) (g' := (mkF m 45 #[.val (.int x0)] [(.int (45 : Int32)), (.int x0)])) (fun t k => XS.icmpYes X0.here hx rfl (pc0 := 31) (pc' := 42) rfl (hb hby own_d2_31) rfl (tlt hc3).1 (by decide) (by decide) (XS.iloadN X0.here hx rfl (hb hby own_d2_42) rfl (XS.bipush X0.here hx rfl (hb hby own_d2_43) k))) ?_
        by_cases hc4 : x0 = (45 : Int32)
        · refine own_via (T' := s₁) (g' := (mkF m 71 #[.val (.int x0)] [(.int (1 : Int32))])) (fun t k => XS.icmpYes X0.here hx rfl (pc0 := 45) (pc' := 66) rfl (hb hby own_d2_45) rfl (teq hc4).1 (by decide) (by decide) (XS.iconst X0.here hx rfl (hb hby own_d2_66) (XS.goto X0.here hx rfl (pc0 := 67) (pc' := 71) rfl (hb hby own_d2_67) (by decide) (by decide) k))) ?_
          refine own_retN X0 hx hlk (ty := .boolean) hret (by simp) (hb hby own_d2_71) (by decide) (by decide) ?_
          exact ⟨by rw [own_ref, if_pos hc1, if_pos hc2, if_pos hc3, if_pos hc4] <;> rfl, e0, rfl⟩
        · refine own_via (T' := s₁) (g' := (mkF m 51 #[.val (.int x0)] [(.int (95 : Int32)), (.int x0)])) (fun t k => XS.icmpNo X0.here hx rfl (hb hby own_d2_45) rfl (feq hc4).1 (XS.iloadN X0.here hx rfl (hb hby own_d2_48) rfl (XS.bipush X0.here hx rfl (hb hby own_d2_49) k))) ?_
          by_cases hc5 : x0 = (95 : Int32)
          · refine own_via (T' := s₁) (g' := (mkF m 71 #[.val (.int x0)] [(.int (1 : Int32))])) (fun t k => XS.icmpYes X0.here hx rfl (pc0 := 51) (pc' := 66) rfl (hb hby own_d2_51) rfl (teq hc5).1 (by decide) (by decide) (XS.iconst X0.here hx rfl (hb hby own_d2_66) (XS.goto X0.here hx rfl (pc0 := 67) (pc' := 71) rfl (hb hby own_d2_67) (by decide) (by decide) k))) ?_
            refine own_retN X0 hx hlk (ty := .boolean) hret (by simp) (hb hby own_d2_71) (by decide) (by decide) ?_
            exact ⟨by rw [own_ref, if_pos hc1, if_pos hc2, if_pos hc3, if_neg hc4, if_pos hc5] <;> rfl, e0, rfl⟩
          · refine own_via (T' := s₁) (g' := (mkF m 57 #[.val (.int x0)] [(.int (46 : Int32)), (.int x0)])) (fun t k => XS.icmpNo X0.here hx rfl (hb hby own_d2_51) rfl (feq hc5).1 (XS.iloadN X0.here hx rfl (hb hby own_d2_54) rfl (XS.bipush X0.here hx rfl (hb hby own_d2_55) k))) ?_
            by_cases hc6 : x0 = (46 : Int32)
            · refine own_via (T' := s₁) (g' := (mkF m 71 #[.val (.int x0)] [(.int (1 : Int32))])) (fun t k => XS.icmpYes X0.here hx rfl (pc0 := 57) (pc' := 66) rfl (hb hby own_d2_57) rfl (teq hc6).1 (by decide) (by decide) (XS.iconst X0.here hx rfl (hb hby own_d2_66) (XS.goto X0.here hx rfl (pc0 := 67) (pc' := 71) rfl (hb hby own_d2_67) (by decide) (by decide) k))) ?_
              refine own_retN X0 hx hlk (ty := .boolean) hret (by simp) (hb hby own_d2_71) (by decide) (by decide) ?_
              exact ⟨by rw [own_ref, if_pos hc1, if_pos hc2, if_pos hc3, if_neg hc4, if_neg hc5, if_pos hc6] <;> rfl, e0, rfl⟩
            · refine own_via (T' := s₁) (g' := (mkF m 63 #[.val (.int x0)] [(.int (126 : Int32)), (.int x0)])) (fun t k => XS.icmpNo X0.here hx rfl (hb hby own_d2_57) rfl (feq hc6).1 (XS.iloadN X0.here hx rfl (hb hby own_d2_60) rfl (XS.bipush X0.here hx rfl (hb hby own_d2_61) k))) ?_
              by_cases hc7 : x0 = (126 : Int32)
              · refine own_via (T' := s₁) (g' := (mkF m 71 #[.val (.int x0)] [(.int (1 : Int32))])) (fun t k => XS.icmpNo X0.here hx rfl (hb hby own_d2_63) rfl (teq hc7).2 (XS.iconst X0.here hx rfl (hb hby own_d2_66) (XS.goto X0.here hx rfl (pc0 := 67) (pc' := 71) rfl (hb hby own_d2_67) (by decide) (by decide) k))) ?_
                refine own_retN X0 hx hlk (ty := .boolean) hret (by simp) (hb hby own_d2_71) (by decide) (by decide) ?_
                exact ⟨by rw [own_ref, if_pos hc1, if_pos hc2, if_pos hc3, if_neg hc4, if_neg hc5, if_neg hc6, if_pos hc7] <;> rfl, e0, rfl⟩
              · refine own_via (T' := s₁) (g' := (mkF m 71 #[.val (.int x0)] [(.int (0 : Int32))])) (fun t k => XS.icmpYes X0.here hx rfl (pc0 := 63) (pc' := 70) rfl (hb hby own_d2_63) rfl (feq hc7).2 (by decide) (by decide) (XS.iconst X0.here hx rfl (hb hby own_d2_70) k)) ?_
                refine own_retN X0 hx hlk (ty := .boolean) hret (by simp) (hb hby own_d2_71) (by decide) (by decide) ?_
                exact ⟨by rw [own_ref, if_pos hc1, if_pos hc2, if_pos hc3, if_neg hc4, if_neg hc5, if_neg hc6, if_neg hc7] <;> rfl, e0, rfl⟩
      · refine own_via (T' := s₁) (g' := (mkF m 37 #[.val (.int x0)] [(.int (57 : Int32)), (.int x0)])) (fun t k => XS.icmpNo X0.here hx rfl (hb hby own_d2_31) rfl (flt hc3).1 (XS.iloadN X0.here hx rfl (hb hby own_d2_34) rfl (XS.bipush X0.here hx rfl (hb hby own_d2_35) k))) ?_
        by_cases hc8 : (57 : Int32) < x0
        · refine own_via (T' := s₁) (g' := (mkF m 45 #[.val (.int x0)] [(.int (45 : Int32)), (.int x0)])) (fun t k => XS.icmpYes X0.here hx rfl (pc0 := 37) (pc' := 42) rfl (hb hby own_d2_37) rfl (tlt hc8).2.2.1 (by decide) (by decide) (XS.iloadN X0.here hx rfl (hb hby own_d2_42) rfl (XS.bipush X0.here hx rfl (hb hby own_d2_43) k))) ?_
          by_cases hc9 : x0 = (45 : Int32)
          · refine own_via (T' := s₁) (g' := (mkF m 71 #[.val (.int x0)] [(.int (1 : Int32))])) (fun t k => XS.icmpYes X0.here hx rfl (pc0 := 45) (pc' := 66) rfl (hb hby own_d2_45) rfl (teq hc9).1 (by decide) (by decide) (XS.iconst X0.here hx rfl (hb hby own_d2_66) (XS.goto X0.here hx rfl (pc0 := 67) (pc' := 71) rfl (hb hby own_d2_67) (by decide) (by decide) k))) ?_
            refine own_retN X0 hx hlk (ty := .boolean) hret (by simp) (hb hby own_d2_71) (by decide) (by decide) ?_
            exact ⟨by rw [own_ref, if_pos hc1, if_pos hc2, if_neg hc3, if_pos hc8, if_pos hc9] <;> rfl, e0, rfl⟩
          · refine own_via (T' := s₁) (g' := (mkF m 51 #[.val (.int x0)] [(.int (95 : Int32)), (.int x0)])) (fun t k => XS.icmpNo X0.here hx rfl (hb hby own_d2_45) rfl (feq hc9).1 (XS.iloadN X0.here hx rfl (hb hby own_d2_48) rfl (XS.bipush X0.here hx rfl (hb hby own_d2_49) k))) ?_
            by_cases hc10 : x0 = (95 : Int32)
            · refine own_via (T' := s₁) (g' := (mkF m 71 #[.val (.int x0)] [(.int (1 : Int32))])) (fun t k => XS.icmpYes X0.here hx rfl (pc0 := 51) (pc' := 66) rfl (hb hby own_d2_51) rfl (teq hc10).1 (by decide) (by decide) (XS.iconst X0.here hx rfl (hb hby own_d2_66) (XS.goto X0.here hx rfl (pc0 := 67) (pc' := 71) rfl (hb hby own_d2_67) (by decide) (by decide) k))) ?_
              refine own_retN X0 hx hlk (ty := .boolean) hret (by simp) (hb hby own_d2_71) (by decide) (by decide) ?_
              exact ⟨by rw [own_ref, if_pos hc1, if_pos hc2, if_neg hc3, if_pos hc8, if_neg hc9, if_pos hc10] <;> rfl, e0, rfl⟩
            · refine own_via (T' := s₁) (g' := (mkF m 57 #[.val (.int x0)] [(.int (46 : Int32)), (.int x0)])) (fun t k => XS.icmpNo X0.here hx rfl (hb hby own_d2_51) rfl (feq hc10).1 (XS.iloadN X0.here hx rfl (hb hby own_d2_54) rfl (XS.bipush X0.here hx rfl (hb hby own_d2_55) k))) ?_
              by_cases hc11 : x0 = (46 : Int32)
              · refine own_via (T' := s₁) (g' := (mkF m 71 #[.val (.int x0)] [(.int (1 : Int32))])) (fun t k => XS.icmpYes X0.here hx rfl (pc0 := 57) (pc' := 66) rfl (hb hby own_d2_57) rfl (teq hc11).1 (by decide) (by decide) (XS.iconst X0.here hx rfl (hb hby own_d2_66) (XS.goto X0.here hx rfl (pc0 := 67) (pc' := 71) rfl (hb hby own_d2_67) (by decide) (by decide) k))) ?_
                refine own_retN X0 hx hlk (ty := .boolean) hret (by simp) (hb hby own_d2_71) (by decide) (by decide) ?_
                exact ⟨by rw [own_ref, if_pos hc1, if_pos hc2, if_neg hc3, if_pos hc8, if_neg hc9, if_neg hc10, if_pos hc11] <;> rfl, e0, rfl⟩
              · refine own_via (T' := s₁) (g' := (mkF m 63 #[.val (.int x0)] [(.int (126 : Int32)), (.int x0)])) (fun t k => XS.icmpNo X0.here hx rfl (hb hby own_d2_57) rfl (feq hc11).1 (XS.iloadN X0.here hx rfl (hb hby own_d2_60) rfl (XS.bipush X0.here hx rfl (hb hby own_d2_61) k))) ?_
                by_cases hc12 : x0 = (126 : Int32)
                · refine own_via (T' := s₁) (g' := (mkF m 71 #[.val (.int x0)] [(.int (1 : Int32))])) (fun t k => XS.icmpNo X0.here hx rfl (hb hby own_d2_63) rfl (teq hc12).2 (XS.iconst X0.here hx rfl (hb hby own_d2_66) (XS.goto X0.here hx rfl (pc0 := 67) (pc' := 71) rfl (hb hby own_d2_67) (by decide) (by decide) k))) ?_
                  refine own_retN X0 hx hlk (ty := .boolean) hret (by simp) (hb hby own_d2_71) (by decide) (by decide) ?_
                  exact ⟨by rw [own_ref, if_pos hc1, if_pos hc2, if_neg hc3, if_pos hc8, if_neg hc9, if_neg hc10, if_neg hc11, if_pos hc12] <;> rfl, e0, rfl⟩
                · refine own_via (T' := s₁) (g' := (mkF m 71 #[.val (.int x0)] [(.int (0 : Int32))])) (fun t k => XS.icmpYes X0.here hx rfl (pc0 := 63) (pc' := 70) rfl (hb hby own_d2_63) rfl (feq hc12).2 (by decide) (by decide) (XS.iconst X0.here hx rfl (hb hby own_d2_70) k)) ?_
                  refine own_retN X0 hx hlk (ty := .boolean) hret (by simp) (hb hby own_d2_71) (by decide) (by decide) ?_
                  exact ⟨by rw [own_ref, if_pos hc1, if_pos hc2, if_neg hc3, if_pos hc8, if_neg hc9, if_neg hc10, if_neg hc11, if_neg hc12] <;> rfl, e0, rfl⟩
        · refine own_via (T' := s₁) (g' := (mkF m 41 #[.val (.int x0)] [(.int (1 : Int32))])) (fun t k => XS.icmpNo X0.here hx rfl (hb hby own_d2_37) rfl (flt hc8).2.2.1 (XS.iconst X0.here hx rfl (hb hby own_d2_40) k)) ?_
          refine own_retN X0 hx hlk (ty := .boolean) hret (by simp) (hb hby own_d2_41) (by decide) (by decide) ?_
          exact ⟨by rw [own_ref, if_pos hc1, if_pos hc2, if_neg hc3, if_neg hc8] <;> rfl, e0, rfl⟩
    · refine own_via (T' := s₁) (g' := (mkF m 23 #[.val (.int x0)] [(.int (122 : Int32)), (.int x0)])) (fun t k => XS.icmpNo X0.here hx rfl (hb hby own_d2_17) rfl (flt hc2).1 (XS.iloadN X0.here hx rfl (hb hby own_d2_20) rfl (XS.bipush X0.here hx rfl (hb hby own_d2_21) k))) ?_
      by_cases hc13 : (122 : Int32) < x0
      · refine own_via (T' := s₁) (g' := (mkF m 31 #[.val (.int x0)] [(.int (48 : Int32)), (.int x0)])) (fun t k => XS.icmpYes X0.here hx rfl (pc0 := 23) (pc' := 28) rfl (hb hby own_d2_23) rfl (tlt hc13).2.2.1 (by decide) (by decide) (XS.iloadN X0.here hx rfl (hb hby own_d2_28) rfl (XS.bipush X0.here hx rfl (hb hby own_d2_29) k))) ?_
        by_cases hc14 : x0 < (48 : Int32)
        · refine own_via (T' := s₁) (g' := (mkF m 45 #[.val (.int x0)] [(.int (45 : Int32)), (.int x0)])) (fun t k => XS.icmpYes X0.here hx rfl (pc0 := 31) (pc' := 42) rfl (hb hby own_d2_31) rfl (tlt hc14).1 (by decide) (by decide) (XS.iloadN X0.here hx rfl (hb hby own_d2_42) rfl (XS.bipush X0.here hx rfl (hb hby own_d2_43) k))) ?_
          by_cases hc15 : x0 = (45 : Int32)
          · refine own_via (T' := s₁) (g' := (mkF m 71 #[.val (.int x0)] [(.int (1 : Int32))])) (fun t k => XS.icmpYes X0.here hx rfl (pc0 := 45) (pc' := 66) rfl (hb hby own_d2_45) rfl (teq hc15).1 (by decide) (by decide) (XS.iconst X0.here hx rfl (hb hby own_d2_66) (XS.goto X0.here hx rfl (pc0 := 67) (pc' := 71) rfl (hb hby own_d2_67) (by decide) (by decide) k))) ?_
            refine own_retN X0 hx hlk (ty := .boolean) hret (by simp) (hb hby own_d2_71) (by decide) (by decide) ?_
            exact ⟨by rw [own_ref, if_pos hc1, if_neg hc2, if_pos hc13, if_pos hc14, if_pos hc15] <;> rfl, e0, rfl⟩
          · refine own_via (T' := s₁) (g' := (mkF m 51 #[.val (.int x0)] [(.int (95 : Int32)), (.int x0)])) (fun t k => XS.icmpNo X0.here hx rfl (hb hby own_d2_45) rfl (feq hc15).1 (XS.iloadN X0.here hx rfl (hb hby own_d2_48) rfl (XS.bipush X0.here hx rfl (hb hby own_d2_49) k))) ?_
            by_cases hc16 : x0 = (95 : Int32)
            · refine own_via (T' := s₁) (g' := (mkF m 71 #[.val (.int x0)] [(.int (1 : Int32))])) (fun t k => XS.icmpYes X0.here hx rfl (pc0 := 51) (pc' := 66) rfl (hb hby own_d2_51) rfl (teq hc16).1 (by decide) (by decide) (XS.iconst X0.here hx rfl (hb hby own_d2_66) (XS.goto X0.here hx rfl (pc0 := 67) (pc' := 71) rfl (hb hby own_d2_67) (by decide) (by decide) k))) ?_
              refine own_retN X0 hx hlk (ty := .boolean) hret (by simp) (hb hby own_d2_71) (by decide) (by decide) ?_
              exact ⟨by rw [own_ref, if_pos hc1, if_neg hc2, if_pos hc13, if_pos hc14, if_neg hc15, if_pos hc16] <;> rfl, e0, rfl⟩
            · refine own_via (T' := s₁) (g' := (mkF m 57 #[.val (.int x0)] [(.int (46 : Int32)), (.int x0)])) (fun t k => XS.icmpNo X0.here hx rfl (hb hby own_d2_51) rfl (feq hc16).1 (XS.iloadN X0.here hx rfl (hb hby own_d2_54) rfl (XS.bipush X0.here hx rfl (hb hby own_d2_55) k))) ?_
              by_cases hc17 : x0 = (46 : Int32)
              · refine own_via (T' := s₁) (g' := (mkF m 71 #[.val (.int x0)] [(.int (1 : Int32))])) (fun t k => XS.icmpYes X0.here hx rfl (pc0 := 57) (pc' := 66) rfl (hb hby own_d2_57) rfl (teq hc17).1 (by decide) (by decide) (XS.iconst X0.here hx rfl (hb hby own_d2_66) (XS.goto X0.here hx rfl (pc0 := 67) (pc' := 71) rfl (hb hby own_d2_67) (by decide) (by decide) k))) ?_
                refine own_retN X0 hx hlk (ty := .boolean) hret (by simp) (hb hby own_d2_71) (by decide) (by decide) ?_
                exact ⟨by rw [own_ref, if_pos hc1, if_neg hc2, if_pos hc13, if_pos hc14, if_neg hc15, if_neg hc16, if_pos hc17] <;> rfl, e0, rfl⟩
              · refine own_via (T' := s₁) (g' := (mkF m 63 #[.val (.int x0)] [(.int (126 : Int32)), (.int x0)])) (fun t k => XS.icmpNo X0.here hx rfl (hb hby own_d2_57) rfl (feq hc17).1 (XS.iloadN X0.here hx rfl (hb hby own_d2_60) rfl (XS.bipush X0.here hx rfl (hb hby own_d2_61) k))) ?_
                by_cases hc18 : x0 = (126 : Int32)
                · refine own_via (T' := s₁) (g' := (mkF m 71 #[.val (.int x0)] [(.int (1 : Int32))])) (fun t k => XS.icmpNo X0.here hx rfl (hb hby own_d2_63) rfl (teq hc18).2 (XS.iconst X0.here hx rfl (hb hby own_d2_66) (XS.goto X0.here hx rfl (pc0 := 67) (pc' := 71) rfl (hb hby own_d2_67) (by decide) (by decide) k))) ?_
                  refine own_retN X0 hx hlk (ty := .boolean) hret (by simp) (hb hby own_d2_71) (by decide) (by decide) ?_
                  exact ⟨by rw [own_ref, if_pos hc1, if_neg hc2, if_pos hc13, if_pos hc14, if_neg hc15, if_neg hc16, if_neg hc17, if_pos hc18] <;> rfl, e0, rfl⟩
                · refine own_via (T' := s₁) (g' := (mkF m 71 #[.val (.int x0)] [(.int (0 : Int32))])) (fun t k => XS.icmpYes X0.here hx rfl (pc0 := 63) (pc' := 70) rfl (hb hby own_d2_63) rfl (feq hc18).2 (by decide) (by decide) (XS.iconst X0.here hx rfl (hb hby own_d2_70) k)) ?_
                  refine own_retN X0 hx hlk (ty := .boolean) hret (by simp) (hb hby own_d2_71) (by decide) (by decide) ?_
                  exact ⟨by rw [own_ref, if_pos hc1, if_neg hc2, if_pos hc13, if_pos hc14, if_neg hc15, if_neg hc16, if_neg hc17, if_neg hc18] <;> rfl, e0, rfl⟩
        · refine own_via (T' := s₁) (g' := (mkF m 37 #[.val (.int x0)] [(.int (57 : Int32)), (.int x0)])) (fun t k => XS.icmpNo X0.here hx rfl (hb hby own_d2_31) rfl (flt hc14).1 (XS.iloadN X0.here hx rfl (hb hby own_d2_34) rfl (XS.bipush X0.here hx rfl (hb hby own_d2_35) k))) ?_
          by_cases hc19 : (57 : Int32) < x0
          · refine own_via (T' := s₁) (g' := (mkF m 45 #[.val (.int x0)] [(.int (45 : Int32)), (.int x0)])) (fun t k => XS.icmpYes X0.here hx rfl (pc0 := 37) (pc' := 42) rfl (hb hby own_d2_37) rfl (tlt hc19).2.2.1 (by decide) (by decide) (XS.iloadN X0.here hx rfl (hb hby own_d2_42) rfl (XS.bipush X0.here hx rfl (hb hby own_d2_43) k))) ?_
            by_cases hc20 : x0 = (45 : Int32)
            · refine own_via (T' := s₁) (g' := (mkF m 71 #[.val (.int x0)] [(.int (1 : Int32))])) (fun t k => XS.icmpYes X0.here hx rfl (pc0 := 45) (pc' := 66) rfl (hb hby own_d2_45) rfl (teq hc20).1 (by decide) (by decide) (XS.iconst X0.here hx rfl (hb hby own_d2_66) (XS.goto X0.here hx rfl (pc0 := 67) (pc' := 71) rfl (hb hby own_d2_67) (by decide) (by decide) k))) ?_
              refine own_retN X0 hx hlk (ty := .boolean) hret (by simp) (hb hby own_d2_71) (by decide) (by decide) ?_
              exact ⟨by rw [own_ref, if_pos hc1, if_neg hc2, if_pos hc13, if_neg hc14, if_pos hc19, if_pos hc20] <;> rfl, e0, rfl⟩
            · refine own_via (T' := s₁) (g' := (mkF m 51 #[.val (.int x0)] [(.int (95 : Int32)), (.int x0)])) (fun t k => XS.icmpNo X0.here hx rfl (hb hby own_d2_45) rfl (feq hc20).1 (XS.iloadN X0.here hx rfl (hb hby own_d2_48) rfl (XS.bipush X0.here hx rfl (hb hby own_d2_49) k))) ?_
              by_cases hc21 : x0 = (95 : Int32)
              · refine own_via (T' := s₁) (g' := (mkF m 71 #[.val (.int x0)] [(.int (1 : Int32))])) (fun t k => XS.icmpYes X0.here hx rfl (pc0 := 51) (pc' := 66) rfl (hb hby own_d2_51) rfl (teq hc21).1 (by decide) (by decide) (XS.iconst X0.here hx rfl (hb hby own_d2_66) (XS.goto X0.here hx rfl (pc0 := 67) (pc' := 71) rfl (hb hby own_d2_67) (by decide) (by decide) k))) ?_
                refine own_retN X0 hx hlk (ty := .boolean) hret (by simp) (hb hby own_d2_71) (by decide) (by decide) ?_
                exact ⟨by rw [own_ref, if_pos hc1, if_neg hc2, if_pos hc13, if_neg hc14, if_pos hc19, if_neg hc20, if_pos hc21] <;> rfl, e0, rfl⟩
              · refine own_via (T' := s₁) (g' := (mkF m 57 #[.val (.int x0)] [(.int (46 : Int32)), (.int x0)])) (fun t k => XS.icmpNo X0.here hx rfl (hb hby own_d2_51) rfl (feq hc21).1 (XS.iloadN X0.here hx rfl (hb hby own_d2_54) rfl (XS.bipush X0.here hx rfl (hb hby own_d2_55) k))) ?_
                by_cases hc22 : x0 = (46 : Int32)
                · refine own_via (T' := s₁) (g' := (mkF m 71 #[.val (.int x0)] [(.int (1 : Int32))])) (fun t k => XS.icmpYes X0.here hx rfl (pc0 := 57) (pc' := 66) rfl (hb hby own_d2_57) rfl (teq hc22).1 (by decide) (by decide) (XS.iconst X0.here hx rfl (hb hby own_d2_66) (XS.goto X0.here hx rfl (pc0 := 67) (pc' := 71) rfl (hb hby own_d2_67) (by decide) (by decide) k))) ?_
                  refine own_retN X0 hx hlk (ty := .boolean) hret (by simp) (hb hby own_d2_71) (by decide) (by decide) ?_
                  exact ⟨by rw [own_ref, if_pos hc1, if_neg hc2, if_pos hc13, if_neg hc14, if_pos hc19, if_neg hc20, if_neg hc21, if_pos hc22] <;> rfl, e0, rfl⟩
                · refine own_via (T' := s₁) (g' := (mkF m 63 #[.val (.int x0)] [(.int (126 : Int32)), (.int x0)])) (fun t k => XS.icmpNo X0.here hx rfl (hb hby own_d2_57) rfl (feq hc22).1 (XS.iloadN X0.here hx rfl (hb hby own_d2_60) rfl (XS.bipush X0.here hx rfl (hb hby own_d2_61) k))) ?_
                  by_cases hc23 : x0 = (126 : Int32)
                  · refine own_via (T' := s₁) (g' := (mkF m 71 #[.val (.int x0)] [(.int (1 : Int32))])) (fun t k => XS.icmpNo X0.here hx rfl (hb hby own_d2_63) rfl (teq hc23).2 (XS.iconst X0.here hx rfl (hb hby own_d2_66) (XS.goto X0.here hx rfl (pc0 := 67) (pc' := 71) rfl (hb hby own_d2_67) (by decide) (by decide) k))) ?_
                    refine own_retN X0 hx hlk (ty := .boolean) hret (by simp) (hb hby own_d2_71) (by decide) (by decide) ?_
                    exact ⟨by rw [own_ref, if_pos hc1, if_neg hc2, if_pos hc13, if_neg hc14, if_pos hc19, if_neg hc20, if_neg hc21, if_neg hc22, if_pos hc23] <;> rfl, e0, rfl⟩
                  · refine own_via (T' := s₁) (g' := (mkF m 71 #[.val (.int x0)] [(.int (0 : Int32))])) (fun t k => XS.icmpYes X0.here hx rfl (pc0 := 63) (pc' := 70) rfl (hb hby own_d2_63) rfl (feq hc23).2 (by decide) (by decide) (XS.iconst X0.here hx rfl (hb hby own_d2_70) k)) ?_
                    refine own_retN X0 hx hlk (ty := .boolean) hret (by simp) (hb hby own_d2_71) (by decide) (by decide) ?_
                    exact ⟨by rw [own_ref, if_pos hc1, if_neg hc2, if_pos hc13, if_neg hc14, if_pos hc19, if_neg hc20, if_neg hc21, if_neg hc22, if_neg hc23] <;> rfl, e0, rfl⟩
          · refine own_via (T' := s₁) (g' := (mkF m 41 #[.val (.int x0)] [(.int (1 : Int32))])) (fun t k => XS.icmpNo X0.here hx rfl (hb hby own_d2_37) rfl (flt hc19).2.2.1 (XS.iconst X0.here hx rfl (hb hby own_d2_40) k)) ?_
            refine own_retN X0 hx hlk (ty := .boolean) hret (by simp) (hb hby own_d2_41) (by decide) (by decide) ?_
            exact ⟨by rw [own_ref, if_pos hc1, if_neg hc2, if_pos hc13, if_neg hc14, if_neg hc19] <;> rfl, e0, rfl⟩
      · refine own_via (T' := s₁) (g' := (mkF m 27 #[.val (.int x0)] [(.int (1 : Int32))])) (fun t k => XS.icmpNo X0.here hx rfl (hb hby own_d2_23) rfl (flt hc13).2.2.1 (XS.iconst X0.here hx rfl (hb hby own_d2_26) k)) ?_
        refine own_retN X0 hx hlk (ty := .boolean) hret (by simp) (hb hby own_d2_27) (by decide) (by decide) ?_
        exact ⟨by rw [own_ref, if_pos hc1, if_neg hc2, if_neg hc13] <;> rfl, e0, rfl⟩
  · refine own_via (T' := s₁) (g' := (mkF m 9 #[.val (.int x0)] [(.int (90 : Int32)), (.int x0)])) (fun t k => XS.icmpNo X0.here hx rfl (hb hby own_d2_3) rfl (flt hc1).1 (XS.iloadN X0.here hx rfl (hb hby own_d2_6) rfl (XS.bipush X0.here hx rfl (hb hby own_d2_7) k))) ?_
    by_cases hc24 : (90 : Int32) < x0
    · refine own_via (T' := s₁) (g' := (mkF m 17 #[.val (.int x0)] [(.int (97 : Int32)), (.int x0)])) (fun t k => XS.icmpYes X0.here hx rfl (pc0 := 9) (pc' := 14) rfl (hb hby own_d2_9) rfl (tlt hc24).2.2.1 (by decide) (by decide) (XS.iloadN X0.here hx rfl (hb hby own_d2_14) rfl (XS.bipush X0.here hx rfl (hb hby own_d2_15) k))) ?_
      by_cases hc25 : x0 < (97 : Int32)
      · refine own_via (T' := s₁) (g' := (mkF m 31 #[.val (.int x0)] [(.int (48 : Int32)), (.int x0)])) (fun t k => XS.icmpYes X0.here hx rfl (pc0 := 17) (pc' := 28) rfl (hb hby own_d2_17) rfl (tlt hc25).1 (by decide) (by decide) (XS.iloadN X0.here hx rfl (hb hby own_d2_28) rfl (XS.bipush X0.here hx rfl (hb hby own_d2_29) k))) ?_
        by_cases hc26 : x0 < (48 : Int32)
        · refine own_via (T' := s₁) (g' := (mkF m 45 #[.val (.int x0)] [(.int (45 : Int32)), (.int x0)])) (fun t k => XS.icmpYes X0.here hx rfl (pc0 := 31) (pc' := 42) rfl (hb hby own_d2_31) rfl (tlt hc26).1 (by decide) (by decide) (XS.iloadN X0.here hx rfl (hb hby own_d2_42) rfl (XS.bipush X0.here hx rfl (hb hby own_d2_43) k))) ?_
          by_cases hc27 : x0 = (45 : Int32)
          · refine own_via (T' := s₁) (g' := (mkF m 71 #[.val (.int x0)] [(.int (1 : Int32))])) (fun t k => XS.icmpYes X0.here hx rfl (pc0 := 45) (pc' := 66) rfl (hb hby own_d2_45) rfl (teq hc27).1 (by decide) (by decide) (XS.iconst X0.here hx rfl (hb hby own_d2_66) (XS.goto X0.here hx rfl (pc0 := 67) (pc' := 71) rfl (hb hby own_d2_67) (by decide) (by decide) k))) ?_
            refine own_retN X0 hx hlk (ty := .boolean) hret (by simp) (hb hby own_d2_71) (by decide) (by decide) ?_
            exact ⟨by rw [own_ref, if_neg hc1, if_pos hc24, if_pos hc25, if_pos hc26, if_pos hc27] <;> rfl, e0, rfl⟩
          · refine own_via (T' := s₁) (g' := (mkF m 51 #[.val (.int x0)] [(.int (95 : Int32)), (.int x0)])) (fun t k => XS.icmpNo X0.here hx rfl (hb hby own_d2_45) rfl (feq hc27).1 (XS.iloadN X0.here hx rfl (hb hby own_d2_48) rfl (XS.bipush X0.here hx rfl (hb hby own_d2_49) k))) ?_
            by_cases hc28 : x0 = (95 : Int32)
            · refine own_via (T' := s₁) (g' := (mkF m 71 #[.val (.int x0)] [(.int (1 : Int32))])) (fun t k => XS.icmpYes X0.here hx rfl (pc0 := 51) (pc' := 66) rfl (hb hby own_d2_51) rfl (teq hc28).1 (by decide) (by decide) (XS.iconst X0.here hx rfl (hb hby own_d2_66) (XS.goto X0.here hx rfl (pc0 := 67) (pc' := 71) rfl (hb hby own_d2_67) (by decide) (by decide) k))) ?_
              refine own_retN X0 hx hlk (ty := .boolean) hret (by simp) (hb hby own_d2_71) (by decide) (by decide) ?_
              exact ⟨by rw [own_ref, if_neg hc1, if_pos hc24, if_pos hc25, if_pos hc26, if_neg hc27, if_pos hc28] <;> rfl, e0, rfl⟩
            · refine own_via (T' := s₁) (g' := (mkF m 57 #[.val (.int x0)] [(.int (46 : Int32)), (.int x0)])) (fun t k => XS.icmpNo X0.here hx rfl (hb hby own_d2_51) rfl (feq hc28).1 (XS.iloadN X0.here hx rfl (hb hby own_d2_54) rfl (XS.bipush X0.here hx rfl (hb hby own_d2_55) k))) ?_
              by_cases hc29 : x0 = (46 : Int32)
              · refine own_via (T' := s₁) (g' := (mkF m 71 #[.val (.int x0)] [(.int (1 : Int32))])) (fun t k => XS.icmpYes X0.here hx rfl (pc0 := 57) (pc' := 66) rfl (hb hby own_d2_57) rfl (teq hc29).1 (by decide) (by decide) (XS.iconst X0.here hx rfl (hb hby own_d2_66) (XS.goto X0.here hx rfl (pc0 := 67) (pc' := 71) rfl (hb hby own_d2_67) (by decide) (by decide) k))) ?_
                refine own_retN X0 hx hlk (ty := .boolean) hret (by simp) (hb hby own_d2_71) (by decide) (by decide) ?_
                exact ⟨by rw [own_ref, if_neg hc1, if_pos hc24, if_pos hc25, if_pos hc26, if_neg hc27, if_neg hc28, if_pos hc29] <;> rfl, e0, rfl⟩
              · refine own_via (T' := s₁) (g' := (mkF m 63 #[.val (.int x0)] [(.int (126 : Int32)), (.int x0)])) (fun t k => XS.icmpNo X0.here hx rfl (hb hby own_d2_57) rfl (feq hc29).1 (XS.iloadN X0.here hx rfl (hb hby own_d2_60) rfl (XS.bipush X0.here hx rfl (hb hby own_d2_61) k))) ?_
                by_cases hc30 : x0 = (126 : Int32)
                · refine own_via (T' := s₁) (g' := (mkF m 71 #[.val (.int x0)] [(.int (1 : Int32))])) (fun t k => XS.icmpNo X0.here hx rfl (hb hby own_d2_63) rfl (teq hc30).2 (XS.iconst X0.here hx rfl (hb hby own_d2_66) (XS.goto X0.here hx rfl (pc0 := 67) (pc' := 71) rfl (hb hby own_d2_67) (by decide) (by decide) k))) ?_
                  refine own_retN X0 hx hlk (ty := .boolean) hret (by simp) (hb hby own_d2_71) (by decide) (by decide) ?_
                  exact ⟨by rw [own_ref, if_neg hc1, if_pos hc24, if_pos hc25, if_pos hc26, if_neg hc27, if_neg hc28, if_neg hc29, if_pos hc30] <;> rfl, e0, rfl⟩
                · refine own_via (T' := s₁) (g' := (mkF m 71 #[.val (.int x0)] [(.int (0 : Int32))])) (fun t k => XS.icmpYes X0.here hx rfl (pc0 := 63) (pc' := 70) rfl (hb hby own_d2_63) rfl (feq hc30).2 (by decide) (by decide) (XS.iconst X0.here hx rfl (hb hby own_d2_70) k)) ?_
                  refine own_retN X0 hx hlk (ty := .boolean) hret (by simp) (hb hby own_d2_71) (by decide) (by decide) ?_
                  exact ⟨by rw [own_ref, if_neg hc1, if_pos hc24, if_pos hc25, if_pos hc26, if_neg hc27, if_neg hc28, if_neg hc29, if_neg hc30] <;> rfl, e0, rfl⟩
        · refine own_via (T' := s₁) (g' := (mkF m 37 #[.val (.int x0)] [(.int (57 : Int32)), (.int x0)])) (fun t k => XS.icmpNo X0.here hx rfl (hb hby own_d2_31) rfl (flt hc26).1 (XS.iloadN X0.here hx rfl (hb hby own_d2_34) rfl (XS.bipush X0.here hx rfl (hb hby own_d2_35) k))) ?_
          by_cases hc31 : (57 : Int32) < x0
          · refine own_via (T' := s₁) (g' := (mkF m 45 #[.val (.int x0)] [(.int (45 : Int32)), (.int x0)])) (fun t k => XS.icmpYes X0.here hx rfl (pc0 := 37) (pc' := 42) rfl (hb hby own_d2_37) rfl (tlt hc31).2.2.1 (by decide) (by decide) (XS.iloadN X0.here hx rfl (hb hby own_d2_42) rfl (XS.bipush X0.here hx rfl (hb hby own_d2_43) k))) ?_
            by_cases hc32 : x0 = (45 : Int32)
            · refine own_via (T' := s₁) (g' := (mkF m 71 #[.val (.int x0)] [(.int (1 : Int32))])) (fun t k => XS.icmpYes X0.here hx rfl (pc0 := 45) (pc' := 66) rfl (hb hby own_d2_45) rfl (teq hc32).1 (by decide) (by decide) (XS.iconst X0.here hx rfl (hb hby own_d2_66) (XS.goto X0.here hx rfl (pc0 := 67) (pc' := 71) rfl (hb hby own_d2_67) (by decide) (by decide) k))) ?_
              refine own_retN X0 hx hlk (ty := .boolean) hret (by simp) (hb hby own_d2_71) (by decide) (by decide) ?_
              exact ⟨by rw [own_ref, if_neg hc1, if_pos hc24, if_pos hc25, if_neg hc26, if_pos hc31, if_pos hc32] <;> rfl, e0, rfl⟩
            · refine own_via (T' := s₁) (g' := (mkF m 51 #[.val (.int x0)] [(.int (95 : Int32)), (.int x0)])) (fun t k => XS.icmpNo X0.here hx rfl (hb hby own_d2_45) rfl (feq hc32).1 (XS.iloadN X0.here hx rfl (hb hby own_d2_48) rfl (XS.bipush X0.here hx rfl (hb hby own_d2_49) k))) ?_
              by_cases hc33 : x0 = (95 : Int32)
              · refine own_via (T' := s₁) (g' := (mkF m 71 #[.val (.int x0)] [(.int (1 : Int32))])) (fun t k => XS.icmpYes X0.here hx rfl (pc0 := 51) (pc' := 66) rfl (hb hby own_d2_51) rfl (teq hc33).1 (by decide) (by decide) (XS.iconst X0.here hx rfl (hb hby own_d2_66) (XS.goto X0.here hx rfl (pc0 := 67) (pc' := 71) rfl (hb hby own_d2_67) (by decide) (by decide) k))) ?_
                refine own_retN X0 hx hlk (ty := .boolean) hret (by simp) (hb hby own_d2_71) (by decide) (by decide) ?_
                exact ⟨by rw [own_ref, if_neg hc1, if_pos hc24, if_pos hc25, if_neg hc26, if_pos hc31, if_neg hc32, if_pos hc33] <;> rfl, e0, rfl⟩
              · refine own_via (T' := s₁) (g' := (mkF m 57 #[.val (.int x0)] [(.int (46 : Int32)), (.int x0)])) (fun t k => XS.icmpNo X0.here hx rfl (hb hby own_d2_51) rfl (feq hc33).1 (XS.iloadN X0.here hx rfl (hb hby own_d2_54) rfl (XS.bipush X0.here hx rfl (hb hby own_d2_55) k))) ?_
                by_cases hc34 : x0 = (46 : Int32)
                · refine own_via (T' := s₁) (g' := (mkF m 71 #[.val (.int x0)] [(.int (1 : Int32))])) (fun t k => XS.icmpYes X0.here hx rfl (pc0 := 57) (pc' := 66) rfl (hb hby own_d2_57) rfl (teq hc34).1 (by decide) (by decide) (XS.iconst X0.here hx rfl (hb hby own_d2_66) (XS.goto X0.here hx rfl (pc0 := 67) (pc' := 71) rfl (hb hby own_d2_67) (by decide) (by decide) k))) ?_
                  refine own_retN X0 hx hlk (ty := .boolean) hret (by simp) (hb hby own_d2_71) (by decide) (by decide) ?_
                  exact ⟨by rw [own_ref, if_neg hc1, if_pos hc24, if_pos hc25, if_neg hc26, if_pos hc31, if_neg hc32, if_neg hc33, if_pos hc34] <;> rfl, e0, rfl⟩
                · refine own_via (T' := s₁) (g' := (mkF m 63 #[.val (.int x0)] [(.int (126 : Int32)), (.int x0)])) (fun t k => XS.icmpNo X0.here hx rfl (hb hby own_d2_57) rfl (feq hc34).1 (XS.iloadN X0.here hx rfl (hb hby own_d2_60) rfl (XS.bipush X0.here hx rfl (hb hby own_d2_61) k))) ?_
                  by_cases hc35 : x0 = (126 : Int32)
                  · refine own_via (T' := s₁) (g' := (mkF m 71 #[.val (.int x0)] [(.int (1 : Int32))])) (fun t k => XS.icmpNo X0.here hx rfl (hb hby own_d2_63) rfl (teq hc35).2 (XS.iconst X0.here hx rfl (hb hby own_d2_66) (XS.goto X0.here hx rfl (pc0 := 67) (pc' := 71) rfl (hb hby own_d2_67) (by decide) (by decide) k))) ?_
                    refine own_retN X0 hx hlk (ty := .boolean) hret (by simp) (hb hby own_d2_71) (by decide) (by decide) ?_
                    exact ⟨by rw [own_ref, if_neg hc1, if_pos hc24, if_pos hc25, if_neg hc26, if_pos hc31, if_neg hc32, if_neg hc33, if_neg hc34, if_pos hc35] <;> rfl, e0, rfl⟩
                  · refine own_via (T' := s₁) (g' := (mkF m 71 #[.val (.int x0)] [(.int (0 : Int32))])) (fun t k => XS.icmpYes X0.here hx rfl (pc0 := 63) (pc' := 70) rfl (hb hby own_d2_63) rfl (feq hc35).2 (by decide) (by decide) (XS.iconst X0.here hx rfl (hb hby own_d2_70) k)) ?_
                    refine own_retN X0 hx hlk (ty := .boolean) hret (by simp) (hb hby own_d2_71) (by decide) (by decide) ?_
                    exact ⟨by rw [own_ref, if_neg hc1, if_pos hc24, if_pos hc25, if_neg hc26, if_pos hc31, if_neg hc32, if_neg hc33, if_neg hc34, if_neg hc35] <;> rfl, e0, rfl⟩
          · refine own_via (T' := s₁) (g' := (mkF m 41 #[.val (.int x0)] [(.int (1 : Int32))])) (fun t k => XS.icmpNo X0.here hx rfl (hb hby own_d2_37) rfl (flt hc31).2.2.1 (XS.iconst X0.here hx rfl (hb hby own_d2_40) k)) ?_
            refine own_retN X0 hx hlk (ty := .boolean) hret (by simp) (hb hby own_d2_41) (by decide) (by decide) ?_
            exact ⟨by rw [own_ref, if_neg hc1, if_pos hc24, if_pos hc25, if_neg hc26, if_neg hc31] <;> rfl, e0, rfl⟩
      · refine own_via (T' := s₁) (g' := (mkF m 23 #[.val (.int x0)] [(.int (122 : Int32)), (.int x0)])) (fun t k => XS.icmpNo X0.here hx rfl (hb hby own_d2_17) rfl (flt hc25).1 (XS.iloadN X0.here hx rfl (hb hby own_d2_20) rfl (XS.bipush X0.here hx rfl (hb hby own_d2_21) k))) ?_
        by_cases hc36 : (122 : Int32) < x0
        · refine own_via (T' := s₁) (g' := (mkF m 31 #[.val (.int x0)] [(.int (48 : Int32)), (.int x0)])) (fun t k => XS.icmpYes X0.here hx rfl (pc0 := 23) (pc' := 28) rfl (hb hby own_d2_23) rfl (tlt hc36).2.2.1 (by decide) (by decide) (XS.iloadN X0.here hx rfl (hb hby own_d2_28) rfl (XS.bipush X0.here hx rfl (hb hby own_d2_29) k))) ?_
          by_cases hc37 : x0 < (48 : Int32)
          · refine own_via (T' := s₁) (g' := (mkF m 45 #[.val (.int x0)] [(.int (45 : Int32)), (.int x0)])) (fun t k => XS.icmpYes X0.here hx rfl (pc0 := 31) (pc' := 42) rfl (hb hby own_d2_31) rfl (tlt hc37).1 (by decide) (by decide) (XS.iloadN X0.here hx rfl (hb hby own_d2_42) rfl (XS.bipush X0.here hx rfl (hb hby own_d2_43) k))) ?_
            by_cases hc38 : x0 = (45 : Int32)
            · refine own_via (T' := s₁) (g' := (mkF m 71 #[.val (.int x0)] [(.int (1 : Int32))])) (fun t k => XS.icmpYes X0.here hx rfl (pc0 := 45) (pc' := 66) rfl (hb hby own_d2_45) rfl (teq hc38).1 (by decide) (by decide) (XS.iconst X0.here hx rfl (hb hby own_d2_66) (XS.goto X0.here hx rfl (pc0 := 67) (pc' := 71) rfl (hb hby own_d2_67) (by decide) (by decide) k))) ?_
              refine own_retN X0 hx hlk (ty := .boolean) hret (by simp) (hb hby own_d2_71) (by decide) (by decide) ?_
              exact ⟨by rw [own_ref, if_neg hc1, if_pos hc24, if_neg hc25, if_pos hc36, if_pos hc37, if_pos hc38] <;> rfl, e0, rfl⟩
            · refine own_via (T' := s₁) (g' := (mkF m 51 #[.val (.int x0)] [(.int (95 : Int32)), (.int x0)])) (fun t k => XS.icmpNo X0.here hx rfl (hb hby own_d2_45) rfl (feq hc38).1 (XS.iloadN X0.here hx rfl (hb hby own_d2_48) rfl (XS.bipush X0.here hx rfl (hb hby own_d2_49) k))) ?_
              by_cases hc39 : x0 = (95 : Int32)
              · refine own_via (T' := s₁) (g' := (mkF m 71 #[.val (.int x0)] [(.int (1 : Int32))])) (fun t k => XS.icmpYes X0.here hx rfl (pc0 := 51) (pc' := 66) rfl (hb hby own_d2_51) rfl (teq hc39).1 (by decide) (by decide) (XS.iconst X0.here hx rfl (hb hby own_d2_66) (XS.goto X0.here hx rfl (pc0 := 67) (pc' := 71) rfl (hb hby own_d2_67) (by decide) (by decide) k))) ?_
                refine own_retN X0 hx hlk (ty := .boolean) hret (by simp) (hb hby own_d2_71) (by decide) (by decide) ?_
                exact ⟨by rw [own_ref, if_neg hc1, if_pos hc24, if_neg hc25, if_pos hc36, if_pos hc37, if_neg hc38, if_pos hc39] <;> rfl, e0, rfl⟩
              · refine own_via (T' := s₁) (g' := (mkF m 57 #[.val (.int x0)] [(.int (46 : Int32)), (.int x0)])) (fun t k => XS.icmpNo X0.here hx rfl (hb hby own_d2_51) rfl (feq hc39).1 (XS.iloadN X0.here hx rfl (hb hby own_d2_54) rfl (XS.bipush X0.here hx rfl (hb hby own_d2_55) k))) ?_
                by_cases hc40 : x0 = (46 : Int32)
                · refine own_via (T' := s₁) (g' := (mkF m 71 #[.val (.int x0)] [(.int (1 : Int32))])) (fun t k => XS.icmpYes X0.here hx rfl (pc0 := 57) (pc' := 66) rfl (hb hby own_d2_57) rfl (teq hc40).1 (by decide) (by decide) (XS.iconst X0.here hx rfl (hb hby own_d2_66) (XS.goto X0.here hx rfl (pc0 := 67) (pc' := 71) rfl (hb hby own_d2_67) (by decide) (by decide) k))) ?_
                  refine own_retN X0 hx hlk (ty := .boolean) hret (by simp) (hb hby own_d2_71) (by decide) (by decide) ?_
                  exact ⟨by rw [own_ref, if_neg hc1, if_pos hc24, if_neg hc25, if_pos hc36, if_pos hc37, if_neg hc38, if_neg hc39, if_pos hc40] <;> rfl, e0, rfl⟩
                · refine own_via (T' := s₁) (g' := (mkF m 63 #[.val (.int x0)] [(.int (126 : Int32)), (.int x0)])) (fun t k => XS.icmpNo X0.here hx rfl (hb hby own_d2_57) rfl (feq hc40).1 (XS.iloadN X0.here hx rfl (hb hby own_d2_60) rfl (XS.bipush X0.here hx rfl (hb hby own_d2_61) k))) ?_
                  by_cases hc41 : x0 = (126 : Int32)
                  · refine own_via (T' := s₁) (g' := (mkF m 71 #[.val (.int x0)] [(.int (1 : Int32))])) (fun t k => XS.icmpNo X0.here hx rfl (hb hby own_d2_63) rfl (teq hc41).2 (XS.iconst X0.here hx rfl (hb hby own_d2_66) (XS.goto X0.here hx rfl (pc0 := 67) (pc' := 71) rfl (hb hby own_d2_67) (by decide) (by decide) k))) ?_
                    refine own_retN X0 hx hlk (ty := .boolean) hret (by simp) (hb hby own_d2_71) (by decide) (by decide) ?_
                    exact ⟨by rw [own_ref, if_neg hc1, if_pos hc24, if_neg hc25, if_pos hc36, if_pos hc37, if_neg hc38, if_neg hc39, if_neg hc40, if_pos hc41] <;> rfl, e0, rfl⟩
                  · refine own_via (T' := s₁) (g' := (mkF m 71 #[.val (.int x0)] [(.int (0 : Int32))])) (fun t k => XS.icmpYes X0.here hx rfl (pc0 := 63) (pc' := 70) rfl (hb hby own_d2_63) rfl (feq hc41).2 (by decide) (by decide) (XS.iconst X0.here hx rfl (hb hby own_d2_70) k)) ?_
                    refine own_retN X0 hx hlk (ty := .boolean) hret (by simp) (hb hby own_d2_71) (by decide) (by decide) ?_
                    exact ⟨by rw [own_ref, if_neg hc1, if_pos hc24, if_neg hc25, if_pos hc36, if_pos hc37, if_neg hc38, if_neg hc39, if_neg hc40, if_neg hc41] <;> rfl, e0, rfl⟩
          · refine own_via (T' := s₁) (g' := (mkF m 37 #[.val (.int x0)] [(.int (57 : Int32)), (.int x0)])) (fun t k => XS.icmpNo X0.here hx rfl (hb hby own_d2_31) rfl (flt hc37).1 (XS.iloadN X0.here hx rfl (hb hby own_d2_34) rfl (XS.bipush X0.here hx rfl (hb hby own_d2_35) k))) ?_
            by_cases hc42 : (57 : Int32) < x0
            · refine own_via (T' := s₁) (g' := (mkF m 45 #[.val (.int x0)] [(.int (45 : Int32)), (.int x0)])) (fun t k => XS.icmpYes X0.here hx rfl (pc0 := 37) (pc' := 42) rfl (hb hby own_d2_37) rfl (tlt hc42).2.2.1 (by decide) (by decide) (XS.iloadN X0.here hx rfl (hb hby own_d2_42) rfl (XS.bipush X0.here hx rfl (hb hby own_d2_43) k))) ?_
              by_cases hc43 : x0 = (45 : Int32)
              · refine own_via (T' := s₁) (g' := (mkF m 71 #[.val (.int x0)] [(.int (1 : Int32))])) (fun t k => XS.icmpYes X0.here hx rfl (pc0 := 45) (pc' := 66) rfl (hb hby own_d2_45) rfl (teq hc43).1 (by decide) (by decide) (XS.iconst X0.here hx rfl (hb hby own_d2_66) (XS.goto X0.here hx rfl (pc0 := 67) (pc' := 71) rfl (hb hby own_d2_67) (by decide) (by decide) k))) ?_
                refine own_retN X0 hx hlk (ty := .boolean) hret (by simp) (hb hby own_d2_71) (by decide) (by decide) ?_
                exact ⟨by rw [own_ref, if_neg hc1, if_pos hc24, if_neg hc25, if_pos hc36, if_neg hc37, if_pos hc42, if_pos hc43] <;> rfl, e0, rfl⟩
              · refine own_via (T' := s₁) (g' := (mkF m 51 #[.val (.int x0)] [(.int (95 : Int32)), (.int x0)])) (fun t k => XS.icmpNo X0.here hx rfl (hb hby own_d2_45) rfl (feq hc43).1 (XS.iloadN X0.here hx rfl (hb hby own_d2_48) rfl (XS.bipush X0.here hx rfl (hb hby own_d2_49) k))) ?_
                by_cases hc44 : x0 = (95 : Int32)
                · refine own_via (T' := s₁) (g' := (mkF m 71 #[.val (.int x0)] [(.int (1 : Int32))])) (fun t k => XS.icmpYes X0.here hx rfl (pc0 := 51) (pc' := 66) rfl (hb hby own_d2_51) rfl (teq hc44).1 (by decide) (by decide) (XS.iconst X0.here hx rfl (hb hby own_d2_66) (XS.goto X0.here hx rfl (pc0 := 67) (pc' := 71) rfl (hb hby own_d2_67) (by decide) (by decide) k))) ?_
                  refine own_retN X0 hx hlk (ty := .boolean) hret (by simp) (hb hby own_d2_71) (by decide) (by decide) ?_
                  exact ⟨by rw [own_ref, if_neg hc1, if_pos hc24, if_neg hc25, if_pos hc36, if_neg hc37, if_pos hc42, if_neg hc43, if_pos hc44] <;> rfl, e0, rfl⟩
                · refine own_via (T' := s₁) (g' := (mkF m 57 #[.val (.int x0)] [(.int (46 : Int32)), (.int x0)])) (fun t k => XS.icmpNo X0.here hx rfl (hb hby own_d2_51) rfl (feq hc44).1 (XS.iloadN X0.here hx rfl (hb hby own_d2_54) rfl (XS.bipush X0.here hx rfl (hb hby own_d2_55) k))) ?_
                  by_cases hc45 : x0 = (46 : Int32)
                  · refine own_via (T' := s₁) (g' := (mkF m 71 #[.val (.int x0)] [(.int (1 : Int32))])) (fun t k => XS.icmpYes X0.here hx rfl (pc0 := 57) (pc' := 66) rfl (hb hby own_d2_57) rfl (teq hc45).1 (by decide) (by decide) (XS.iconst X0.here hx rfl (hb hby own_d2_66) (XS.goto X0.here hx rfl (pc0 := 67) (pc' := 71) rfl (hb hby own_d2_67) (by decide) (by decide) k))) ?_
                    refine own_retN X0 hx hlk (ty := .boolean) hret (by simp) (hb hby own_d2_71) (by decide) (by decide) ?_
                    exact ⟨by rw [own_ref, if_neg hc1, if_pos hc24, if_neg hc25, if_pos hc36, if_neg hc37, if_pos hc42, if_neg hc43, if_neg hc44, if_pos hc45] <;> rfl, e0, rfl⟩
                  · refine own_via (T' := s₁) (g' := (mkF m 63 #[.val (.int x0)] [(.int (126 : Int32)), (.int x0)])) (fun t k => XS.icmpNo X0.here hx rfl (hb hby own_d2_57) rfl (feq hc45).1 (XS.iloadN X0.here hx rfl (hb hby own_d2_60) rfl (XS.bipush X0.here hx rfl (hb hby own_d2_61) k))) ?_
                    by_cases hc46 : x0 = (126 : Int32)
                    · refine own_via (T' := s₁) (g' := (mkF m 71 #[.val (.int x0)] [(.int (1 : Int32))])) (fun t k => XS.icmpNo X0.here hx rfl (hb hby own_d2_63) rfl (teq hc46).2 (XS.iconst X0.here hx rfl (hb hby own_d2_66) (XS.goto X0.here hx rfl (pc0 := 67) (pc' := 71) rfl (hb hby own_d2_67) (by decide) (by decide) k))) ?_
                      refine own_retN X0 hx hlk (ty := .boolean) hret (by simp) (hb hby own_d2_71) (by decide) (by decide) ?_
                      exact ⟨by rw [own_ref, if_neg hc1, if_pos hc24, if_neg hc25, if_pos hc36, if_neg hc37, if_pos hc42, if_neg hc43, if_neg hc44, if_neg hc45, if_pos hc46] <;> rfl, e0, rfl⟩
                    · refine own_via (T' := s₁) (g' := (mkF m 71 #[.val (.int x0)] [(.int (0 : Int32))])) (fun t k => XS.icmpYes X0.here hx rfl (pc0 := 63) (pc' := 70) rfl (hb hby own_d2_63) rfl (feq hc46).2 (by decide) (by decide) (XS.iconst X0.here hx rfl (hb hby own_d2_70) k)) ?_
                      refine own_retN X0 hx hlk (ty := .boolean) hret (by simp) (hb hby own_d2_71) (by decide) (by decide) ?_
                      exact ⟨by rw [own_ref, if_neg hc1, if_pos hc24, if_neg hc25, if_pos hc36, if_neg hc37, if_pos hc42, if_neg hc43, if_neg hc44, if_neg hc45, if_neg hc46] <;> rfl, e0, rfl⟩
            · refine own_via (T' := s₁) (g' := (mkF m 41 #[.val (.int x0)] [(.int (1 : Int32))])) (fun t k => XS.icmpNo X0.here hx rfl (hb hby own_d2_37) rfl (flt hc42).2.2.1 (XS.iconst X0.here hx rfl (hb hby own_d2_40) k)) ?_
              refine own_retN X0 hx hlk (ty := .boolean) hret (by simp) (hb hby own_d2_41) (by decide) (by decide) ?_
              exact ⟨by rw [own_ref, if_neg hc1, if_pos hc24, if_neg hc25, if_pos hc36, if_neg hc37, if_neg hc42] <;> rfl, e0, rfl⟩
        · refine own_via (T' := s₁) (g' := (mkF m 27 #[.val (.int x0)] [(.int (1 : Int32))])) (fun t k => XS.icmpNo X0.here hx rfl (hb hby own_d2_23) rfl (flt hc36).2.2.1 (XS.iconst X0.here hx rfl (hb hby own_d2_26) k)) ?_
          refine own_retN X0 hx hlk (ty := .boolean) hret (by simp) (hb hby own_d2_27) (by decide) (by decide) ?_
          exact ⟨by rw [own_ref, if_neg hc1, if_pos hc24, if_neg hc25, if_neg hc36] <;> rfl, e0, rfl⟩
    · refine own_via (T' := s₁) (g' := (mkF m 13 #[.val (.int x0)] [(.int (1 : Int32))])) (fun t k => XS.icmpNo X0.here hx rfl (hb hby own_d2_9) rfl (flt hc24).2.2.1 (XS.iconst X0.here hx rfl (hb hby own_d2_12) k)) ?_
      refine own_retN X0 hx hlk (ty := .boolean) hret (by simp) (hb hby own_d2_13) (by decide) (by decide) ?_
      exact ⟨by rw [own_ref, if_neg hc1, if_neg hc24] <;> rfl, e0, rfl⟩
theorem own_pd0 : parseMethodDescriptor "(C)Z" = some ⟨[.char], some .boolean⟩ := by decide +kernel
def own_f0 (x0 : Int32) : Int32 := (if (((x0.toUInt32 >>> ((16 : Int32) &&& 31).toUInt32).toInt32) &&& (1 : Int32)) = (0 : Int32) then (if (own_isU (x0.toUInt32.toUInt16.toUInt32.toInt32)) = (own_ref (x0.toUInt32.toUInt16.toUInt32.toInt32)) then (1 : Int32) else (0 : Int32)) else (if (own_isU ((x0 &&& (127 : Int32)).toUInt32.toUInt16.toUInt32.toInt32)) = (own_ref ((x0 &&& (127 : Int32)).toUInt32.toUInt16.toUInt32.toInt32)) then (1 : Int32) else (0 : Int32)))
theorem own_mt0_ef (m : MethodId) (x0 : Int32) : entryFrame m #[(.int x0)] maxLocals = mkF m 0 #[.val (.int x0), .unset, .unset] [] := by first | rfl | (simp [entryFrame, mkF, argsToLocals, Value.category]; done)
set_option maxRecDepth 65536 in
set_option maxHeartbeats 40000000 in
theorem own_mt0 (l : Launch) (Z : State) (a0 : Array Value) (hw : ∀ d ∈ tables_1, d.before a0 Z = true) (x0 : Int32) (un : Addr) (h0 : Heap) (n0 : Nat) (Z0 : n0 ≤ h0.size) (S_un : Sta Z h0 "com/example/countersign/countersign/PercentEncoding" "UNRESERVED" "[Z" (.ref un)) (V_un : own_Av Z h0 un .boolean (own_vs)) :
    own_Met l Z x code maxLocals ret room_1 #[(.int x0)] h0 (fun v h L => v = some (.int (own_f0 x0)) ∧ Fr n0 L) := by
  refine own_intro (plainFor_of_name own_pn1) ?_
  intro p e s m below meth c s₁ hx hby hml hown hnm hZ hret hlk X0 e0
  refine own_cast (own_mt0_ef m x0) ?_
  have N0 := Fr.nil n0
  refine own_via (T' := s₁) (g' := (mkF m 6 #[.val (.int x0), .unset, .unset] [(.int (((x0.toUInt32 >>> ((16 : Int32) &&& 31).toUInt32).toInt32) &&& (1 : Int32)))])) (fun t k => XS.iloadN X0.here hx rfl (hb hby at_0) rfl (XS.bipush X0.here hx rfl (hb hby at_1) (XS.iushr X0.here hx rfl (hb hby at_3) rfl (XS.iconst X0.here hx rfl (hb hby at_4) (XS.iand X0.here hx rfl (hb hby at_5) rfl k))))) ?_
  by_cases hc1 : (((x0.toUInt32 >>> ((16 : Int32) &&& 31).toUInt32).toInt32) &&& (1 : Int32)) = (0 : Int32)
  · refine own_via (T' := s₁) (g' := (mkF m 16 #[.val (.int x0), .val (.int (0 : Int32)), .unset] [(.int (0 : Int32))])) (fun t k => XS.ifYes X0.here hx rfl (pc0 := 6) (pc' := 13) rfl (hb hby at_6) rfl ((if0 _ _).trans (teq hc1).1) (by decide) (by decide) (XS.iconst X0.here hx rfl (hb hby at_13) (XS.istoreN X0.here hx rfl (hb hby at_14) rfl (l' := #[.val (.int x0), .val (.int (0 : Int32)), .unset]) rfl (XS.iloadN X0.here hx rfl (hb hby at_15) rfl k)))) ?_
    refine own_via (T' := s₁) (g' := (mkF m 31 #[.val (.int x0), .val (.int (0 : Int32)), .val (.int (x0.toUInt32.toUInt16.toUInt32.toInt32))] [(.int (x0.toUInt32.toUInt16.toUInt32.toInt32))])) (fun t k => XS.ifYes X0.here hx rfl (pc0 := 16) (pc' := 27) rfl (hb hby at_16) rfl ((if0 _ _).trans (teq (by decide : (0 : Int32) = (0 : Int32))).1) (by decide) (by decide) (XS.iloadN X0.here hx rfl (hb hby at_27) rfl (XS.i2c X0.here hx rfl (hb hby at_28) rfl (XS.istoreN X0.here hx rfl (hb hby at_29) rfl (l' := #[.val (.int x0), .val (.int (0 : Int32)), .val (.int (x0.toUInt32.toUInt16.toUInt32.toInt32))]) rfl (XS.iloadN X0.here hx rfl (hb hby at_30) rfl k))))) ?_
    obtain ⟨v2, T2, L2, X2, hQ2, st2⟩ := own_callSt (y := (⟨"com/example/countersign/countersign/PercentEncoding", "isUnreserved", "(C)Z"⟩ : MethodName)) (argsL := [(.int (x0.toUInt32.toUInt16.toUInt32.toInt32))]) (rest := []) X0 hx hZ hown (hw _ (List.mem_of_getElem? (i := 0) rfl)) (hw _ (List.mem_of_getElem? (i := 1) rfl)) (hw _ (List.mem_of_getElem? (i := 2) rfl)) (hw _ (List.mem_of_getElem? (i := 3) rfl)) (by decide) (own_mt1 l Z a0 hw (x0.toUInt32.toUInt16.toUInt32.toInt32) un h0 S_un V_un (own_i2c_nn _)) e0 (W := 0) (by decide) (by decide) (g := (mkF m 31 #[.val (.int x0), .val (.int (0 : Int32)), .val (.int (x0.toUInt32.toUInt16.toUInt32.toInt32))] [(.int (x0.toUInt32.toUInt16.toUInt32.toInt32))])) rfl (by rw [hml]; rfl) (lenOf own_pd0 rfl) rfl (by show 2 * 0 + _ ≤ _; exact Nat.le_of_eq rfl) (hb hby at_31) (by decide) (by decide)
    obtain ⟨rfl, e2, rfl⟩ := hQ2
    have N2 := Fr.app N0 (Fr.nil n0)
    refine own_via (T' := T2) (g' := (mkF m 34 #[.val (.int x0), .val (.int (0 : Int32)), .val (.int (x0.toUInt32.toUInt16.toUInt32.toInt32))] [(.int (own_isU (x0.toUInt32.toUInt16.toUInt32.toInt32)))])) st2 ?_
    refine own_via (T' := T2) (g' := (mkF m 35 #[.val (.int x0), .val (.int (0 : Int32)), .val (.int (x0.toUInt32.toUInt16.toUInt32.toInt32))] [(.int (x0.toUInt32.toUInt16.toUInt32.toInt32)), (.int (own_isU (x0.toUInt32.toUInt16.toUInt32.toInt32)))])) (fun t k => XS.iloadN X2.here hx rfl (hb hby at_34) rfl k) ?_
    obtain ⟨v3, T3, L3, X3, hQ3, st3⟩ := own_callSt (y := (⟨"com/example/countersign/countersign/PercentEncodingIsUnreservedPinLaw", "reference", "(C)Z"⟩ : MethodName)) (argsL := [(.int (x0.toUInt32.toUInt16.toUInt32.toInt32))]) (rest := [(.int (own_isU (x0.toUInt32.toUInt16.toUInt32.toInt32)))]) X2 hx hZ hown (hw _ (List.mem_of_getElem? (i := 6) rfl)) (hw _ (List.mem_of_getElem? (i := 7) rfl)) (hw _ (List.mem_of_getElem? (i := 8) rfl)) (hw _ (List.mem_of_getElem? (i := 9) rfl)) (by decide) (own_mt2 l Z a0 hw (x0.toUInt32.toUInt16.toUInt32.toInt32) h0) e2 (W := 1) (by decide) (by decide) (g := (mkF m 35 #[.val (.int x0), .val (.int (0 : Int32)), .val (.int (x0.toUInt32.toUInt16.toUInt32.toInt32))] [(.int (x0.toUInt32.toUInt16.toUInt32.toInt32)), (.int (own_isU (x0.toUInt32.toUInt16.toUInt32.toInt32)))])) rfl (by rw [hml]; rfl) (lenOf own_pd0 rfl) rfl (by show 2 * 0 + _ ≤ _; exact Nat.le_of_eq rfl) (hb hby at_35) (by decide) (by decide)
    obtain ⟨rfl, e3, rfl⟩ := hQ3
    have N3 := Fr.app N2 (Fr.nil n0)
    refine own_via (T' := T3) (g' := (mkF m 38 #[.val (.int x0), .val (.int (0 : Int32)), .val (.int (x0.toUInt32.toUInt16.toUInt32.toInt32))] [(.int (own_ref (x0.toUInt32.toUInt16.toUInt32.toInt32))), (.int (own_isU (x0.toUInt32.toUInt16.toUInt32.toInt32)))])) st3 ?_
    by_cases hc4 : (own_isU (x0.toUInt32.toUInt16.toUInt32.toInt32)) = (own_ref (x0.toUInt32.toUInt16.toUInt32.toInt32))
    · refine own_via (T' := T3) (g' := (mkF m 46 #[.val (.int x0), .val (.int (0 : Int32)), .val (.int (x0.toUInt32.toUInt16.toUInt32.toInt32))] [(.int (1 : Int32))])) (fun t k => XS.icmpNo X3.here hx rfl (hb hby at_38) rfl (teq hc4).2 (XS.iconst X3.here hx rfl (hb hby at_41) (XS.goto X3.here hx rfl (pc0 := 42) (pc' := 46) rfl (hb hby at_42) (by decide) (by decide) k))) ?_
      refine own_retN X3 hx hlk (ty := .boolean) hret (by simp) (hb hby at_46) (by decide) (by decide) ?_
      exact ⟨by rw [own_f0, if_pos hc1, if_pos hc4] <;> rfl, N3⟩
    · refine own_via (T' := T3) (g' := (mkF m 46 #[.val (.int x0), .val (.int (0 : Int32)), .val (.int (x0.toUInt32.toUInt16.toUInt32.toInt32))] [(.int (0 : Int32))])) (fun t k => XS.icmpYes X3.here hx rfl (pc0 := 38) (pc' := 45) rfl (hb hby at_38) rfl (feq hc4).2 (by decide) (by decide) (XS.iconst X3.here hx rfl (hb hby at_45) k)) ?_
      refine own_retN X3 hx hlk (ty := .boolean) hret (by simp) (hb hby at_46) (by decide) (by decide) ?_
      exact ⟨by rw [own_f0, if_pos hc1, if_neg hc4] <;> rfl, N3⟩
  · refine own_via (T' := s₁) (g' := (mkF m 16 #[.val (.int x0), .val (.int (1 : Int32)), .unset] [(.int (1 : Int32))])) (fun t k => XS.ifNo X0.here hx rfl (hb hby at_6) rfl ((if0 _ _).trans (feq hc1).1) (XS.iconst X0.here hx rfl (hb hby at_9) (XS.goto X0.here hx rfl (pc0 := 10) (pc' := 14) rfl (hb hby at_10) (by decide) (by decide) (XS.istoreN X0.here hx rfl (hb hby at_14) rfl (l' := #[.val (.int x0), .val (.int (1 : Int32)), .unset]) rfl (XS.iloadN X0.here hx rfl (hb hby at_15) rfl k))))) ?_
    refine own_via (T' := s₁) (g' := (mkF m 31 #[.val (.int x0), .val (.int (1 : Int32)), .val (.int ((x0 &&& (127 : Int32)).toUInt32.toUInt16.toUInt32.toInt32))] [(.int ((x0 &&& (127 : Int32)).toUInt32.toUInt16.toUInt32.toInt32))])) (fun t k => XS.ifNo X0.here hx rfl (hb hby at_16) rfl ((if0 _ _).trans (feq (by decide : ¬ ((1 : Int32) = (0 : Int32)))).1) (XS.iloadN X0.here hx rfl (hb hby at_19) rfl (XS.bipush X0.here hx rfl (hb hby at_20) (XS.iand X0.here hx rfl (hb hby at_22) rfl (XS.i2c X0.here hx rfl (hb hby at_23) rfl (XS.goto X0.here hx rfl (pc0 := 24) (pc' := 29) rfl (hb hby at_24) (by decide) (by decide) (XS.istoreN X0.here hx rfl (hb hby at_29) rfl (l' := #[.val (.int x0), .val (.int (1 : Int32)), .val (.int ((x0 &&& (127 : Int32)).toUInt32.toUInt16.toUInt32.toInt32))]) rfl (XS.iloadN X0.here hx rfl (hb hby at_30) rfl k)))))))) ?_
    obtain ⟨v5, T5, L5, X5, hQ5, st5⟩ := own_callSt (y := (⟨"com/example/countersign/countersign/PercentEncoding", "isUnreserved", "(C)Z"⟩ : MethodName)) (argsL := [(.int ((x0 &&& (127 : Int32)).toUInt32.toUInt16.toUInt32.toInt32))]) (rest := []) X0 hx hZ hown (hw _ (List.mem_of_getElem? (i := 0) rfl)) (hw _ (List.mem_of_getElem? (i := 1) rfl)) (hw _ (List.mem_of_getElem? (i := 2) rfl)) (hw _ (List.mem_of_getElem? (i := 3) rfl)) (by decide) (own_mt1 l Z a0 hw ((x0 &&& (127 : Int32)).toUInt32.toUInt16.toUInt32.toInt32) un h0 S_un V_un (own_i2c_nn _)) e0 (W := 0) (by decide) (by decide) (g := (mkF m 31 #[.val (.int x0), .val (.int (1 : Int32)), .val (.int ((x0 &&& (127 : Int32)).toUInt32.toUInt16.toUInt32.toInt32))] [(.int ((x0 &&& (127 : Int32)).toUInt32.toUInt16.toUInt32.toInt32))])) rfl (by rw [hml]; rfl) (lenOf own_pd0 rfl) rfl (by show 2 * 0 + _ ≤ _; exact Nat.le_of_eq rfl) (hb hby at_31) (by decide) (by decide)
    obtain ⟨rfl, e5, rfl⟩ := hQ5
    have N5 := Fr.app N0 (Fr.nil n0)
    refine own_via (T' := T5) (g' := (mkF m 34 #[.val (.int x0), .val (.int (1 : Int32)), .val (.int ((x0 &&& (127 : Int32)).toUInt32.toUInt16.toUInt32.toInt32))] [(.int (own_isU ((x0 &&& (127 : Int32)).toUInt32.toUInt16.toUInt32.toInt32)))])) st5 ?_
    refine own_via (T' := T5) (g' := (mkF m 35 #[.val (.int x0), .val (.int (1 : Int32)), .val (.int ((x0 &&& (127 : Int32)).toUInt32.toUInt16.toUInt32.toInt32))] [(.int ((x0 &&& (127 : Int32)).toUInt32.toUInt16.toUInt32.toInt32)), (.int (own_isU ((x0 &&& (127 : Int32)).toUInt32.toUInt16.toUInt32.toInt32)))])) (fun t k => XS.iloadN X5.here hx rfl (hb hby at_34) rfl k) ?_
    obtain ⟨v6, T6, L6, X6, hQ6, st6⟩ := own_callSt (y := (⟨"com/example/countersign/countersign/PercentEncodingIsUnreservedPinLaw", "reference", "(C)Z"⟩ : MethodName)) (argsL := [(.int ((x0 &&& (127 : Int32)).toUInt32.toUInt16.toUInt32.toInt32))]) (rest := [(.int (own_isU ((x0 &&& (127 : Int32)).toUInt32.toUInt16.toUInt32.toInt32)))]) X5 hx hZ hown (hw _ (List.mem_of_getElem? (i := 6) rfl)) (hw _ (List.mem_of_getElem? (i := 7) rfl)) (hw _ (List.mem_of_getElem? (i := 8) rfl)) (hw _ (List.mem_of_getElem? (i := 9) rfl)) (by decide) (own_mt2 l Z a0 hw ((x0 &&& (127 : Int32)).toUInt32.toUInt16.toUInt32.toInt32) h0) e5 (W := 1) (by decide) (by decide) (g := (mkF m 35 #[.val (.int x0), .val (.int (1 : Int32)), .val (.int ((x0 &&& (127 : Int32)).toUInt32.toUInt16.toUInt32.toInt32))] [(.int ((x0 &&& (127 : Int32)).toUInt32.toUInt16.toUInt32.toInt32)), (.int (own_isU ((x0 &&& (127 : Int32)).toUInt32.toUInt16.toUInt32.toInt32)))])) rfl (by rw [hml]; rfl) (lenOf own_pd0 rfl) rfl (by show 2 * 0 + _ ≤ _; exact Nat.le_of_eq rfl) (hb hby at_35) (by decide) (by decide)
    obtain ⟨rfl, e6, rfl⟩ := hQ6
    have N6 := Fr.app N5 (Fr.nil n0)
    refine own_via (T' := T6) (g' := (mkF m 38 #[.val (.int x0), .val (.int (1 : Int32)), .val (.int ((x0 &&& (127 : Int32)).toUInt32.toUInt16.toUInt32.toInt32))] [(.int (own_ref ((x0 &&& (127 : Int32)).toUInt32.toUInt16.toUInt32.toInt32))), (.int (own_isU ((x0 &&& (127 : Int32)).toUInt32.toUInt16.toUInt32.toInt32)))])) st6 ?_
    by_cases hc7 : (own_isU ((x0 &&& (127 : Int32)).toUInt32.toUInt16.toUInt32.toInt32)) = (own_ref ((x0 &&& (127 : Int32)).toUInt32.toUInt16.toUInt32.toInt32))
    · refine own_via (T' := T6) (g' := (mkF m 46 #[.val (.int x0), .val (.int (1 : Int32)), .val (.int ((x0 &&& (127 : Int32)).toUInt32.toUInt16.toUInt32.toInt32))] [(.int (1 : Int32))])) (fun t k => XS.icmpNo X6.here hx rfl (hb hby at_38) rfl (teq hc7).2 (XS.iconst X6.here hx rfl (hb hby at_41) (XS.goto X6.here hx rfl (pc0 := 42) (pc' := 46) rfl (hb hby at_42) (by decide) (by decide) k))) ?_
      refine own_retN X6 hx hlk (ty := .boolean) hret (by simp) (hb hby at_46) (by decide) (by decide) ?_
      exact ⟨by rw [own_f0, if_neg hc1, if_pos hc7] <;> rfl, N6⟩
    · refine own_via (T' := T6) (g' := (mkF m 46 #[.val (.int x0), .val (.int (1 : Int32)), .val (.int ((x0 &&& (127 : Int32)).toUInt32.toUInt16.toUInt32.toInt32))] [(.int (0 : Int32))])) (fun t k => XS.icmpYes X6.here hx rfl (pc0 := 38) (pc' := 45) rfl (hb hby at_38) rfl (feq hc7).2 (by decide) (by decide) (XS.iconst X6.here hx rfl (hb hby at_45) k)) ?_
      refine own_retN X6 hx hlk (ty := .boolean) hret (by simp) (hb hby at_46) (by decide) (by decide) ?_
      exact ⟨by rw [own_f0, if_neg hc1, if_neg hc7] <;> rfl, N6⟩
theorem own_finU : ∀ n : Fin 128, own_isU (Int32.ofNat n.val) = own_ref (Int32.ofNat n.val) := by decide +kernel
theorem own_char (c : Int32) (hc : ¬ c < 0) : own_isU c = own_ref c := by
  have e := own_cn hc
  by_cases h : c < 128
  · have k1 : (128 : Int32).toInt = 128 := by decide
    have h2 : c.toNatClampNeg < 128 := by rw [Int32.lt_iff_toInt_lt] at h; omega
    have e2 : c = Int32.ofNat c.toNatClampNeg := by
      apply Int32.toInt_inj.mp
      rw [Int32.toInt_ofNat_of_lt (by omega), e]
    rw [e2]; exact own_finU ⟨c.toNatClampNeg, h2⟩
  · have g : ∀ k : Int32, k < 128 → ¬ c < k ∧ k < c ∧ ¬ c = k := fun k q => by
      rw [← Int32.toInt_inj]
      rw [Int32.lt_iff_toInt_lt] at h q
      simp only [Int32.lt_iff_toInt_lt]
      omega
    unfold own_isU own_ref
    simp only [h, g 65 (by decide), g 90 (by decide), g 97 (by decide), g 122 (by decide), g 48 (by decide), g 57 (by decide), g 45 (by decide), g 95 (by decide), g 46 (by decide), g 126 (by decide), if_true, if_false]
theorem own_law (x0 : Int32) : own_f0 x0 = 1 := by
  unfold own_f0
  have a := own_char _ (own_i2c_nn (x0 &&& (127 : Int32)))
  have b := own_char _ (own_i2c_nn x0)
  repeat' split
  all_goals first | rfl | (rename_i h; exact absurd a h) | (rename_i h; exact absurd b h)
theorem own_all {args : Array Value} {s : State} {t : Term} {x : Addr} {cl : Cell} {a b v : Int32} (q : (Jvm.Cond.all t (.or (.lt (.index 0) (.int a)) (.or (.le (.int b) (.index 0)) (.eq (.elem t (.index 0)) (.int v))))).value args s none s [] = some true) (ht : ∀ idx, t.eval args s none idx s = some (.ref x)) (A : Arr s s.heap x cl .boolean) (i : Nat) (hi : i < cl.slots.size) (h31 : i < 2 ^ 31) (h1 : ¬ i.toInt32 < a) (h2 : ¬ b ≤ i.toInt32) : cl.slots[i]? = some (.int v) := by
  have ha := Arr.fin (State.Warmed39.refl s).alike A
  have q' := Cond.all_elim (ht []) ha q i hi
  have e0 : (Term.index 0).eval args s none [i] s = some (.int i.toInt32) := by simp [Term.eval]
  have e1 : (Jvm.Cond.lt (.index 0) (.int a)).value args s none s [i] = some false := by simp [Cond.value, e0, Term.eval, h1]
  have e2 : (Jvm.Cond.le (.int b) (.index 0)).value args s none s [i] = some false := by simp only [Cond.value, e0]; simp [Term.eval, h2]
  have e3 : (Jvm.Cond.eq (.elem t (.index 0)) (.int v)).value args s none s [i] = some true := by
    simp only [Cond.value] at q' e1 e2 ⊢
    rw [e1, e2] at q'
    exact q'
  have k0 : i.toInt32.toNatClampNeg = i := by simp only [Int32.toNatClampNeg, len_toInt h31]; rfl
  cases e4 : (Term.elem t (.index 0)).eval args s none [i] s with
  | none => simp [Cond.value, e4] at e3
  | some y =>
    have e5 := (elem_in e4 (ht _) e0 A.1).2
    rw [k0] at e5
    rw [e5]
    simp only [Cond.value, e4] at e3
    cases y <;> simp [Term.eval] at e3
    rw [e3]
theorem own_all1 {args : Array Value} {s : State} {t : Term} {x : Addr} {cl : Cell} {b v : Int32} (q : (Jvm.Cond.all t (.or (.le (.int b) (.index 0)) (.eq (.elem t (.index 0)) (.int v)))).value args s none s [] = some true) (ht : ∀ idx, t.eval args s none idx s = some (.ref x)) (A : Arr s s.heap x cl .boolean) (i : Nat) (hi : i < cl.slots.size) (h31 : i < 2 ^ 31) (h2 : ¬ b ≤ i.toInt32) : cl.slots[i]? = some (.int v) := by
  have ha := Arr.fin (State.Warmed39.refl s).alike A
  have q' := Cond.all_elim (ht []) ha q i hi
  have e0 : (Term.index 0).eval args s none [i] s = some (.int i.toInt32) := by simp [Term.eval]
  have e2 : (Jvm.Cond.le (.int b) (.index 0)).value args s none s [i] = some false := by simp only [Cond.value, e0]; simp [Term.eval, h2]
  have e3 : (Jvm.Cond.eq (.elem t (.index 0)) (.int v)).value args s none s [i] = some true := by
    simp only [Cond.value] at q' e2 ⊢
    rw [e2] at q'
    exact q'
  have k0 : i.toInt32.toNatClampNeg = i := by simp only [Int32.toNatClampNeg, len_toInt h31]; rfl
  cases e4 : (Term.elem t (.index 0)).eval args s none [i] s with
  | none => simp [Cond.value, e4] at e3
  | some y =>
    have e5 := (elem_in e4 (ht _) e0 A.1).2
    rw [k0] at e5
    rw [e5]
    simp only [Cond.value, e4] at e3
    cases y <;> simp [Term.eval] at e3
    rw [e3]
set_option maxRecDepth 65536 in
set_option maxHeartbeats 40000000 in
theorem own_comes {Post : Tables → Env → Array Value → State → Outcome → State → Prop} (hpost : ∀ tb e args s v u, (limb_1_1.after args s (.returned v) u = true ∧ limb_1_2.after args s (.returned v) u = true ∧ True) → FrameEnd s (.returned v) u (Jvm.fieldLocs frame_1_writes args s ++ Jvm.arrayLocs frame_1_arrays args s ++ Jvm.staticLocs frame_1_statics s) 0 0 → Post tb e args s (.returned v) u) :
    ArmFor flags0 classFile x code maxLocals ret World_1 tables_1 room_1 Calls_1 rest_1 Pre_1 Post := by
  intro l hfl _ _ p e ha hc hk s m args below hf hA hF happ hP
  obtain ⟨hcalls, hrest, hpre⟩ := hP
  obtain ⟨-, -, -, hnamed, -, -, -, hat⟩ := (Spec.applies_iff hf).mp happ
  obtain ⟨hg, hn⟩ := and_e (Cond.before_iff.mp (show (Jvm.Cond.and given_1 narrow_1).before args s = true from hpre))
  obtain ⟨g1, g2⟩ := and_e hg
  obtain ⟨w0, rfl⟩ : ∃ w0 : Value, args = #[w0] := by
    have hs : args.size = 1 := by simpa [Cond.value, given_1] using g1
    obtain ⟨L⟩ := args
    match L, hs with
    | [w0], _ => exact ⟨w0, rfl⟩
  have hw := fun d (hd : d ∈ tables_1) => atoms_spec (ws := Jvm.Cond.code x code maxLocals ret :: tables_1) hat d (List.mem_cons_of_mem _ hd)
  have hfit : Fit s := fun {y c} hc i hi => by
    obtain ⟨ha, rfl⟩ := Array.getElem?_eq_some_iff.mp hc
    have q := List.all_eq_true.mp ((Array.all_eq_true_iff_forall_mem.mp hF) _ (Array.getElem_mem ha)) i (List.mem_range.mpr hi)
    simpa [Array.getElem?_eq_getElem hi] using q
  obtain ⟨i0, ei0⟩ := is_v g2
  obtain rfl : w0 = (.int i0) := Option.some.inj ei0
  unfold narrow_1 at hn
  obtain ⟨q1, hn⟩ := and_e hn
  obtain ⟨q2, hn⟩ := and_e hn
  obtain ⟨q3, hn⟩ := and_e hn
  obtain ⟨q4, hn⟩ := and_e hn
  obtain ⟨q5, hn⟩ := and_e hn
  obtain ⟨q6, hn⟩ := and_e hn
  obtain ⟨q7, hn⟩ := and_e hn
  obtain ⟨q8, hn⟩ := and_e hn
  obtain ⟨q9, hn⟩ := and_e hn
  obtain ⟨q10, hn⟩ := and_e hn
  obtain ⟨q11, hn⟩ := and_e hn
  obtain ⟨q12, hn⟩ := and_e hn
  obtain ⟨q13, hn⟩ := and_e hn
  obtain ⟨q14, hn⟩ := and_e hn
  obtain ⟨q15, hn⟩ := and_e hn
  obtain ⟨q16, hn⟩ := and_e hn
  obtain ⟨q17, hn⟩ := and_e hn
  obtain ⟨un, eu⟩ := arr_v q1
  obtain ⟨cu, Au⟩ := Arr.start eu q1
  have S_un := Sta.start eu (Or.inr ⟨hw _ (List.mem_of_getElem? (i := 2) rfl), hw _ (List.mem_of_getElem? (i := 5) rfl)⟩)
  have hsz : cu.slots.size = 128 := own_len q2 eu Au (by decide)
  have V_un : own_Av s s.heap un .boolean (own_vs) := own_Av.of Au (by rw [hsz]; simp [own_vs]) (fun i hi => by
    have hi : i < 128 := by simpa [own_vs] using hi
    have hic : i < cu.slots.size := by rw [hsz]; exact hi
    have h31 : i < 2 ^ 31 := by omega
    have ti : i.toInt32.toInt = (i : Int) := len_toInt h31
    have nl : ∀ k : Int32, (i : Int) < k.toInt → ¬ k ≤ i.toInt32 := fun k q => by rw [Int32.le_iff_toInt_le, ti]; omega
    have ng : ∀ k : Int32, k.toInt ≤ (i : Int) → ¬ i.toInt32 < k := fun k q => by rw [Int32.lt_iff_toInt_lt, ti]; omega
    have goal : cu.slots[i]? = some (.int (own_tb i)) := by
      rcases Nat.lt_or_ge i 45 with r | r
      · rw [own_all1 q3 (fun _ => eu) Au i hic h31 (nl _ (by have k : (45 : Int32).toInt = 45 := (by decide); omega)), show own_tb i = 0 from if_neg (by omega)]
      rcases Nat.lt_or_ge i 48 with r2 | r2
      · obtain rfl | rfl | rfl : i = 45 ∨ i = 46 ∨ i = 47 := by omega
        · exact own_elemI q4 eu Au
        · exact own_elemI q5 eu Au
        · exact own_elemI q6 eu Au
      rcases Nat.lt_or_ge i 58 with r3 | r3
      · rw [own_all q7 (fun _ => eu) Au i hic h31 (ng _ (by have k : (48 : Int32).toInt = 48 := (by decide); omega)) (nl _ (by have k : (58 : Int32).toInt = 58 := (by decide); omega)), show own_tb i = 1 from if_pos (by omega)]
      rcases Nat.lt_or_ge i 65 with r4 | r4
      · rw [own_all q8 (fun _ => eu) Au i hic h31 (ng _ (by have k : (58 : Int32).toInt = 58 := (by decide); omega)) (nl _ (by have k : (65 : Int32).toInt = 65 := (by decide); omega)), show own_tb i = 0 from if_neg (by omega)]
      rcases Nat.lt_or_ge i 91 with r5 | r5
      · rw [own_all q9 (fun _ => eu) Au i hic h31 (ng _ (by have k : (65 : Int32).toInt = 65 := (by decide); omega)) (nl _ (by have k : (91 : Int32).toInt = 91 := (by decide); omega)), show own_tb i = 1 from if_pos (by omega)]
      rcases Nat.lt_or_ge i 95 with r6 | r6
      · rw [own_all q10 (fun _ => eu) Au i hic h31 (ng _ (by have k : (91 : Int32).toInt = 91 := (by decide); omega)) (nl _ (by have k : (95 : Int32).toInt = 95 := (by decide); omega)), show own_tb i = 0 from if_neg (by omega)]
      rcases Nat.lt_or_ge i 97 with r7 | r7
      · obtain rfl | rfl : i = 95 ∨ i = 96 := by omega
        · exact own_elemI q11 eu Au
        · exact own_elemI q12 eu Au
      rcases Nat.lt_or_ge i 123 with r8 | r8
      · rw [own_all q13 (fun _ => eu) Au i hic h31 (ng _ (by have k : (97 : Int32).toInt = 97 := (by decide); omega)) (nl _ (by have k : (123 : Int32).toInt = 123 := (by decide); omega)), show own_tb i = 1 from if_pos (by omega)]
      obtain rfl | rfl | rfl | rfl | rfl : i = 123 ∨ i = 124 ∨ i = 125 ∨ i = 126 ∨ i = 127 := by omega
      · exact own_elemI q14 eu Au
      · exact own_elemI q15 eu Au
      · exact own_elemI q16 eu Au
      · exact own_elemI q17 eu Au
      · exact own_elemI hn eu Au
    rw [goal]; simp [own_vs, List.getElem?_range hi]) (by simp [own_vs])
  obtain ⟨n, o, h1, h2, h3, _, L, rfl, ⟨hval, N⟩, hq⟩ := own_mt0 l s _ hw i0 un s.heap s.heap.size (Nat.le_refl _) S_un V_un tables_1 p e ha hc hk s m _ below hf ((Spec.applies_iff_loose hf).mp happ).1 ⟨rfl, State.Warmed39.refl s, rfl⟩ trivial
  rw [own_law i0] at hval
  subst hval
  refine ⟨n, _, h1, h2, h3, hpost _ _ _ _ _ _ ⟨Cond.after_iff.mpr rfl, Cond.after_iff.mpr (eq_i res_at (Term.int_eval (1)) rfl), trivial⟩ ⟨hq.1, hq.2.1, (hq.2.2.sift fun y hy => Or.inr (N y hy)).mono (by decide) (by decide)⟩⟩
theorem main_1_1 : Claimed_1_1 := own_comes fun _ _ _ _ _ _ h hF => ⟨h.1, hF⟩
theorem main_1_2 : Claimed_1_2 := own_comes fun _ _ _ _ _ _ h hF => ⟨h.2.1, hF⟩
end Jvm.Pilot.@@N@@
namespace Jvm.Pilot.@@N@@
open Jvm Jvm.ClassFile Sem Op Lib Jvm.Free Jvm.Stand Jvm.Pilot.@@N@@.Jvm.D
/-! MADE BY PROGRAM (witnessworld.py) out of the Statement's table words and the real class files: 11 classes; the members and pool entries that the words name. The judged class is class 1, her method 2. -/
namespace start1
open Jvm.ClassFile
def u (s : String) : CpInfo := .utf8 (stringToUtf16 s)
/-- a pool by its gaps: so many unusable entries, then the entry; so many at the end -/
def gap : Nat → List CpInfo → List CpInfo
  | 0, r => r
  | n + 1, r => .unusable :: gap n r
def poolList (es : List (Nat × CpInfo)) (last : Nat) : List CpInfo := es.foldr (fun e r => gap e.1 (e.2 :: r)) (gap last [])
def pool (es : List (Nat × CpInfo)) (last : Nat) : Array CpInfo := ⟨poolList es last⟩
def fileOf (pool : Array CpInfo) (this : Nat) (attrs : Array Attribute := #[]) (ms : Array MethodInfo := #[]) (fl : Nat := 33) (sup : Nat := 0) (ifs : Array Nat := #[]) (fds : Array FieldInfo := #[]) : ClassFile where
  minorVersion := 0
  majorVersion := 65
  constantPool := pool
  accessFlags := fl
  thisClass := this
  superClass := sup
  interfaces := ifs
  fields := fds
  methods := ms
  attributes := attrs
def plain (name : String) (sup : Option ClassId) : Class where
  name := name
  kind := .ordinary
  loader := none
  accessFlags := 33
  super := sup
  interfaces := #[]
  cf := none
  fields := #[]
  methods := #[]
  instanceTypes := #[]
  staticTypes := #[]
  resolved := #[]
  callSites := []
  init := .initialized
  statics := none
  mirror := none

def pool0 : Array CpInfo := pool [(5, u "<init>"), (0, u "()V"), (1, .class_ 10), (1, u "java/lang/Object")] 113

def k0m0 : Method := { name := "<init>", desc := "()V", sig := { parameters := [], returnType := none }, accessFlags := 1, code := none }
/-- java/lang/Object -/
def k0 : Class := { plain "java/lang/Object" none with
  accessFlags := 33
  interfaces := #[]
  cf := some (fileOf pool0 8 #[] #[{ accessFlags := 1, nameIndex := 5, descriptorIndex := 6, attributes := #[] }] 33 0 #[] #[])
  fields := #[]
  methods := #[k0m0]
  instanceTypes := #[]
  staticTypes := #[]
  resolved := Array.replicate 124 none
  statics := none }

def pool1 : Array CpInfo := pool [(2, .class_ 4), (1, u "java/lang/Object"), (0, u "<init>"), (0, u "()V"), (0, .methodref 8 9), (0, .class_ 10), (0, .nameAndType 11 12), (0, u "com/example/countersign/countersign/PercentEncoding"), (0, u "isUnreserved"), (0, u "(C)Z"), (0, .methodref 14 15), (0, .class_ 16), (0, .nameAndType 17 12), (0, u "com/example/countersign/countersign/PercentEncodingIsUnreservedPinLaw"), (0, u "reference"), (3, u "law"), (0, u "(I)Z")] 2

def k1m0 : Method := { name := "<init>", desc := "()V", sig := { parameters := [], returnType := none }, accessFlags := 2, code := none }
def k1c1 : Code := { maxStack := 2, maxLocals := 1, code := method_2_code, exceptionTable := #[], attributes := #[] }
def k1m1 : Method := { name := "reference", desc := "(C)Z", sig := { parameters := [.char], returnType := some .boolean }, accessFlags := 10, code := some k1c1 }
def k1c2 : Code := { maxStack := 2, maxLocals := 3, code := code, exceptionTable := #[], attributes := #[] }
def k1m2 : Method := { name := "law", desc := "(I)Z", sig := { parameters := [.int], returnType := some .boolean }, accessFlags := 9, code := some k1c2 }
/-- com/example/countersign/countersign/PercentEncodingIsUnreservedPinLaw -/
def k1 : Class := { plain "com/example/countersign/countersign/PercentEncodingIsUnreservedPinLaw" (some 0) with
  accessFlags := 49
  interfaces := #[]
  cf := some (fileOf pool1 14 #[] #[{ accessFlags := 2, nameIndex := 5, descriptorIndex := 6, attributes := #[] }, { accessFlags := 10, nameIndex := 17, descriptorIndex := 12, attributes := #[] }, { accessFlags := 9, nameIndex := 21, descriptorIndex := 22, attributes := #[] }] 49 2 #[] #[])
  fields := #[]
  methods := #[k1m0, k1m1, k1m2]
  instanceTypes := #[]
  staticTypes := #[]
  resolved := Array.replicate 25 none
  statics := none }

def pool2 : Array CpInfo := pool [(2, .class_ 4), (1, u "java/lang/Object"), (0, u "<init>"), (0, u "()V"), (11, .class_ 20), (1, u "com/example/countersign/countersign/PercentEncoding"), (0, u "isUnreserved"), (0, u "(C)Z"), (99, .fieldref 18 123), (0, .nameAndType 124 125), (0, u "UNRESERVED"), (0, u "[Z"), (5, u "HEX_DIGITS"), (0, u "[C")] 35

def k2m0 : Method := { name := "<init>", desc := "()V", sig := { parameters := [], returnType := none }, accessFlags := 2, code := none }
def k2c1 : Code := { maxStack := 2, maxLocals := 1, code := prog_29_method_7_code, exceptionTable := #[], attributes := #[] }
def k2m1 : Method := { name := "isUnreserved", desc := "(C)Z", sig := { parameters := [.char], returnType := some .boolean }, accessFlags := 8, code := some k2c1 }
/-- com/example/countersign/countersign/PercentEncoding -/
def k2 : Class := { plain "com/example/countersign/countersign/PercentEncoding" (some 0) with
  accessFlags := 48
  interfaces := #[]
  cf := some (fileOf pool2 18 #[] #[{ accessFlags := 2, nameIndex := 5, descriptorIndex := 6, attributes := #[] }, { accessFlags := 8, nameIndex := 21, descriptorIndex := 22, attributes := #[] }] 48 2 #[] #[{ accessFlags := 26, nameIndex := 131, descriptorIndex := 132, attributes := #[] }, { accessFlags := 26, nameIndex := 124, descriptorIndex := 125, attributes := #[] }])
  fields := #[{ name := "HEX_DIGITS", type := (.array .char), accessFlags := 26, slot := 0, constantValue := 0 }, { name := "UNRESERVED", type := (.array .boolean), accessFlags := 26, slot := 1, constantValue := 0 }]
  methods := #[k2m0, k2m1]
  instanceTypes := #[]
  staticTypes := #[(.array .char), (.array .boolean)]
  resolved := Array.replicate 168 none
  statics := some 0 }

def pool3 : Array CpInfo := pool [(1, u "java/lang/Cloneable"), (0, .class_ 1), (0, u "java/lang/Object"), (0, .class_ 3)] 3

/-- java/lang/Cloneable -/
def k3 : Class := { plain "java/lang/Cloneable" (some 0) with
  accessFlags := 1537
  interfaces := #[]
  cf := some (fileOf pool3 2 #[] #[] 1537 4 #[] #[])
  fields := #[]
  methods := #[]
  instanceTypes := #[]
  staticTypes := #[]
  resolved := Array.replicate 8 none
  statics := none }

def pool4 : Array CpInfo := pool [(1, u "java/io/Serializable"), (0, .class_ 1), (0, u "java/lang/Object"), (0, .class_ 3)] 3

/-- java/io/Serializable -/
def k4 : Class := { plain "java/io/Serializable" (some 0) with
  accessFlags := 1537
  interfaces := #[]
  cf := some (fileOf pool4 2 #[] #[] 1537 4 #[] #[])
  fields := #[]
  methods := #[]
  instanceTypes := #[]
  staticTypes := #[]
  resolved := Array.replicate 8 none
  statics := none }

/-- the primitive boolean -/
def k5 : Class := { plain "boolean" none with kind := .primitive 'Z', accessFlags := 0x411 }
/-- [Z -/
def k6 : Class := { plain "[Z" (some 0) with kind := .array 5 .boolean, interfaces := #[3, 4], accessFlags := 1041 }

/-- the primitive byte -/
def k7 : Class := { plain "byte" none with kind := .primitive 'B', accessFlags := 0x411 }
/-- [B -/
def k8 : Class := { plain "[B" (some 0) with kind := .array 7 .byte, interfaces := #[3, 4], accessFlags := 1041 }

/-- the primitive int -/
def k9 : Class := { plain "int" none with kind := .primitive 'I', accessFlags := 0x411 }
/-- [I -/
def k10 : Class := { plain "[I" (some 0) with kind := .array 9 .int, interfaces := #[3, 4], accessFlags := 1041 }

def heap : Heap := #[{ cls := 2, slots := #[.null, .ref 1], vm := .statics 2 },
  { cls := 6, slots := #[.int 0, .int 0, .int 0, .int 0, .int 0, .int 0, .int 0, .int 0, .int 0, .int 0, .int 0, .int 0, .int 0, .int 0, .int 0, .int 0, .int 0, .int 0, .int 0, .int 0, .int 0, .int 0, .int 0, .int 0, .int 0, .int 0, .int 0, .int 0, .int 0, .int 0, .int 0, .int 0, .int 0, .int 0, .int 0, .int 0, .int 0, .int 0, .int 0, .int 0, .int 0, .int 0, .int 0, .int 0, .int 0, .int 1, .int 1, .int 0, .int 1, .int 1, .int 1, .int 1, .int 1, .int 1, .int 1, .int 1, .int 1, .int 1, .int 0, .int 0, .int 0, .int 0, .int 0, .int 0, .int 0, .int 1, .int 1, .int 1, .int 1, .int 1, .int 1, .int 1, .int 1, .int 1, .int 1, .int 1, .int 1, .int 1, .int 1, .int 1, .int 1, .int 1, .int 1, .int 1, .int 1, .int 1, .int 1, .int 1, .int 1, .int 1, .int 1, .int 0, .int 0, .int 0, .int 0, .int 1, .int 0, .int 1, .int 1, .int 1, .int 1, .int 1, .int 1, .int 1, .int 1, .int 1, .int 1, .int 1, .int 1, .int 1, .int 1, .int 1, .int 1, .int 1, .int 1, .int 1, .int 1, .int 1, .int 1, .int 1, .int 1, .int 1, .int 1, .int 0, .int 0, .int 0, .int 1, .int 0], vm := .none }]
def classes : Array Class := #[k0, k1, k2, k3, k4, k5, k6, k7, k8, k9, k10]
def interned : List (Array UInt16 × Addr) := []
def slotsUsed : Nat := 130
def theMethod : MethodId := ⟨1, 2⟩
def args0 : Array Value := #[.int 5]
def aboutOver (below : List Frame) : State where
  vm := { classes := classes, interned := interned.toArray }
  heap := heap
  slotsUsed := slotsUsed
  threads := #[{ frames := .invoking theMethod args0 :: below }]
def below0 : List Frame := [.native { method := ⟨0, 0⟩, args := #[] }]
def about1 : State := aboutOver below0
def p0 : Program := .bare "" "" ""
def e0 : Env := launch0.env 0 0 0
theorem w_frames : about1.frames = Frame.invoking theMethod args0 :: below0 := rfl
set_option maxRecDepth 65536 in
theorem w_args : argsFit about1.vm theMethod args0 = true := by decide +kernel
set_option maxRecDepth 65536 in
theorem w_heap : heapFits about1 = true := by decide +kernel
set_option maxRecDepth 65536 in
theorem w_runnable : about1.curStatus? = some .runnable := by decide +kernel
set_option maxRecDepth 65536 in
theorem w_alone : about1.alone = true := by decide +kernel
set_option maxRecDepth 65536 in
theorem w_named : about1.methodNamed? x = some theMethod := by decide +kernel
set_option maxRecDepth 65536 in
theorem w_hears : about1.hears theMethod below0 = true := by decide +kernel
set_option maxRecDepth 65536 in
theorem w_ripe : about1.ripe theMethod args0 below0 = true := by decide +kernel
theorem w_running : about1.status = .running := rfl
set_option maxRecDepth 65536 in
theorem w_room : about1.hasRoom e0.platform room_1 = true :=
  launch0.hasRoom_least _ room_1 (by decide +kernel) (by decide +kernel) (by decide +kernel) (by decide +kernel) (by decide +kernel) (by decide +kernel)
theorem allAtoms_all (ts : List Jvm.Cond) (a : Array Jvm.Value) (st : Jvm.State) : (allAtoms ts).before a st = ts.all (fun c => c.before a st) := by
  induction ts with
  | nil => rfl
  | cons c t ih =>
    show (Jvm.Cond.and c (allAtoms t)).before a st = _
    rw [Jvm.Cond.before_and, ih, List.all_cons]
def words1 : List Jvm.Cond := Jvm.Cond.code x code maxLocals ret :: tables_1
/-- a 'code' word, met by the world's own term for the bytes: nothing is compared byte by byte -/
theorem code_word {y : MethodName} {bytes : ByteArray} {mx : Nat} {rt : Option FieldType} {a : Array Value} {s : State} {m : MethodId} {meth : Method} {c : Code} (h1 : s.methodNamed? y = some m) (h2 : s.vm.method? m = some meth) (h3 : meth.code = some c) (h4 : c.code = bytes)
    (h5 : (c.maxLocals == mx && c.exceptionTable.isEmpty && decide (c.maxStack ≤ mostOperands) && decide (meth.sig.returnType = rt) && !meth.locks && decide (parseMethodDescriptor y.desc = some meth.sig)) = true) : (Jvm.Cond.code y bytes mx rt).before a s = true := by
  simp only [Bool.and_eq_true, beq_iff_eq, Bool.not_eq_true', decide_eq_true_eq] at h5
  obtain ⟨⟨⟨⟨⟨g1, g2⟩, g3⟩, g4⟩, g5⟩, g6⟩ := h5
  simp [Cond.before, Cond.holds, Cond.value, h1, h2, h3, h4, g1, g2, g3, g4, g5, g6]
def isCode : Jvm.Cond → Bool
  | .code _ _ _ _ => true
  | _ => false
theorem all_split {L : List Jvm.Cond} {P : Jvm.Cond → Bool} (h1 : L.all (fun c => isCode c || P c) = true) (h2 : ∀ c ∈ L.filter isCode, P c = true) : L.all P = true := by
  refine List.all_eq_true.mpr fun c hc => ?_
  have h := List.all_eq_true.mp h1 c hc
  rcases Bool.eq_false_or_eq_true (isCode c) with hi | hi
  · exact h2 c (List.mem_filter.mpr ⟨hc, hi⟩)
  · simpa [hi] using h
set_option maxRecDepth 65536 in
theorem w_c0 : (Jvm.Cond.code x code maxLocals ret).before args0 about1 = true := code_word (m := ⟨1, 2⟩) (meth := k1m2) (c := k1c2) (by decide +kernel) rfl rfl rfl (by decide +kernel)
set_option maxRecDepth 65536 in
theorem w_c1 : (Jvm.Cond.code ({ cls := "com/example/countersign/countersign/PercentEncoding", name := "isUnreserved", desc := "(C)Z" } : Jvm.MethodName) prog_29_method_7_code (1 : Nat) (Option.some Jvm.ClassFile.FieldType.boolean)).before args0 about1 = true := code_word (m := ⟨2, 1⟩) (meth := k2m1) (c := k2c1) (by decide +kernel) rfl rfl rfl (by decide +kernel)
set_option maxRecDepth 65536 in
theorem w_c2 : (Jvm.Cond.code ({ cls := "com/example/countersign/countersign/PercentEncodingIsUnreservedPinLaw", name := "reference", desc := "(C)Z" } : Jvm.MethodName) method_2_code (1 : Nat) (Option.some Jvm.ClassFile.FieldType.boolean)).before args0 about1 = true := code_word (m := ⟨1, 1⟩) (meth := k1m1) (c := k1c1) (by decide +kernel) rfl rfl rfl (by decide +kernel)
def codes1 : List Jvm.Cond := [Jvm.Cond.code x code maxLocals ret, Jvm.Cond.code ({ cls := "com/example/countersign/countersign/PercentEncoding", name := "isUnreserved", desc := "(C)Z" } : Jvm.MethodName) prog_29_method_7_code (1 : Nat) (Option.some Jvm.ClassFile.FieldType.boolean), Jvm.Cond.code ({ cls := "com/example/countersign/countersign/PercentEncodingIsUnreservedPinLaw", name := "reference", desc := "(C)Z" } : Jvm.MethodName) method_2_code (1 : Nat) (Option.some Jvm.ClassFile.FieldType.boolean)]
set_option maxRecDepth 65536 in
theorem codes_eq : words1.filter isCode = codes1 := rfl
theorem w_codes : ∀ c ∈ words1.filter isCode, c.before args0 about1 = true := by
  rw [codes_eq]
  intro c hc
  simp only [codes1, List.mem_cons, List.not_mem_nil, or_false] at hc
  rcases hc with rfl | rfl | rfl
  · exact w_c0
  · exact w_c1
  · exact w_c2
set_option maxRecDepth 65536 in
theorem w_t1 : words1.all (fun c => isCode c || c.before args0 about1) = true := by decide +kernel
theorem w_tables : (allAtoms (Jvm.Cond.code x code maxLocals ret :: tables_1)).before args0 about1 = true := by
  rw [allAtoms_all]
  show words1.all (fun c => c.before args0 about1) = true
  refine all_split ?_ w_codes
  rw [w_t1]
set_option maxRecDepth 65536 in
theorem w_case : (Jvm.Cond.and given_1 narrow_1).before args0 about1 = true := by decide +kernel
theorem w_applies : (headSpec (Jvm.Cond.code x code maxLocals ret :: tables_1) room_1).applies x e0.platform about1 = true :=
  (Spec.applies_iff w_frames).mpr ⟨w_running, w_runnable, w_alone, w_named, w_hears, w_ripe, w_room, w_tables⟩
theorem atStart : AtStart classFile x code maxLocals ret World_1 tables_1 room_1 Calls_1 rest_1 Pre_1 launch0 p0 e0 about1 theMethod args0 below0 :=
  ⟨lists_1, trivial, launch0.admits_env _ _ _, launch0.least_env, fairChoices_fair.cas, fairChoices_fair.clock, w_frames, w_args, w_heap, w_applies, trivial, trivial, w_case⟩
end start1
theorem witness_1 : WitnessClaimed_1 := ⟨start1.p0, start1.e0, start1.about1, start1.theMethod, start1.args0, start1.below0, start1.atStart⟩
end Jvm.Pilot.@@N@@
