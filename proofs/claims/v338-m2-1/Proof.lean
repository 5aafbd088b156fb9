import JvmDerived
import JvmDerived.Pilot.@@N@@Statement
import JvmDerived.Pilot.@@N@@Code
set_option linter.unusedVariables false
set_option linter.unusedSimpArgs false
namespace Jvm.Pilot.@@N@@
open Jvm Jvm.ClassFile Sem Op Lib Jvm.Free Jvm.Stand Jvm.LawKit Jvm.RoadKit Bundle Jvm.Pilot.@@N@@.Jvm.D

/-! ## own kit: a walk as a tree -/
section OwnKit
variable {p : Program} {l : Launch} {e : Env} {R : Room} {s : State} {m : MethodId} {args : Array Value} {below : List Frame} {meth : Method} {c : Code} {T T' : State} {locs : List Loc} {cells slots : Nat} {Q : Option Value → Heap → List Loc → Prop} {f f' : JFrame} {Z : State} {a0 : Array Value} {h h' : Heap}
/-- from here the body comes to its return, and Q holds there -/
def Go (p : Program) (e : Env) (s : State) (below : List Frame) (R : Room) (Q : Option Value → Heap → List Loc → Prop) (T : State) (f : JFrame) : Prop :=
  ∃ s₂ o, Steps p.tables e below (T.setTop f) s₂ ∧ s₂.status = .running ∧ Ended s₂ below o ∧ ∃ v L, o = .returned v ∧ Q v s₂.heap L ∧ FrameEnd s o s₂ L R.cells R.slots
theorem Go.of (k : ∀ t, Steps p.tables e below (T'.setTop f') t → Steps p.tables e below (T.setTop f) t) (G : Go p e s below R Q T' f') : Go p e s below R Q T f := by
  obtain ⟨s2, o, h1, h2⟩ := G
  exact ⟨s2, o, k _ h1, h2⟩
theorem Go.cast (q : f = f') (G : Go p e s below R Q T f') : Go p e s below R Q T f := q ▸ G
theorem Go.retO (X : Stand p l e R s m args below meth c T locs cells slots) (hx : p.tables.exec = Jvm.exec) (hlk : meth.locks = false) {pc : Nat} {Ls : Array Slot} {w : Value} {t : FieldType} {i : Instr} {rest : List Value} (hret : meth.sig.returnType = some t) (hn : narrow t w = w)
    (hi : (i = .ireturn ∧ (t = .int ∨ t = .boolean ∨ t = .byte ∨ t = .char ∨ t = .short) ∧ ∃ z, w = .int z) ∨ (i = .lreturn ∧ t = .long ∧ ∃ z, w = .long z) ∨ (i = .dreturn ∧ t = .double ∧ ∃ z, w = .double z) ∨ (i = .freturn ∧ t = .float ∧ ∃ z, w = .float z) ∨ (i = .areturn ∧ t.isReference = true ∧ w.isRef = true))
    (hd : decode c.code pc = .ok (i, 1)) (hc : cells ≤ R.cells) (hs : slots ≤ R.slots) (hq : Q (some w) T.heap locs) : Go p e s below R Q T (mkF m pc Ls (w :: rest)) := by
  obtain ⟨fs, hr, hrun, hended, hW, hsame⟩ := X.leave (v := some w) (fun h => by rw [hret] at h; cases h) hlk
  exact ⟨_, _, retOut X hx hret hn hi hd hr, hrun, hended, _, _, rfl, hq, ⟨_, rfl⟩, hW, hsame.mono hc hs⟩
theorem Go.retI (X : Stand p l e R s m args below meth c T locs cells slots) (hx : p.tables.exec = Jvm.exec) (hlk : meth.locks = false) (hret : meth.sig.returnType = some .int) {pc : Nat} {Ls : Array Slot} {z : Int32} {rest : List Value}
    (hd : decode c.code pc = .ok (.ireturn, 1)) (hc : cells ≤ R.cells) (hs : slots ≤ R.slots) (hq : Q (some (.int z)) T.heap locs) : Go p e s below R Q T (mkF m pc Ls (.int z :: rest)) :=
  Go.retO X hx hlk hret rfl (Or.inl ⟨rfl, Or.inl rfl, _, rfl⟩) hd hc hs hq
theorem Go.retJ (X : Stand p l e R s m args below meth c T locs cells slots) (hx : p.tables.exec = Jvm.exec) (hlk : meth.locks = false) (hret : meth.sig.returnType = some .long) {pc : Nat} {Ls : Array Slot} {z : Int64} {rest : List Value}
    (hd : decode c.code pc = .ok (.lreturn, 1)) (hc : cells ≤ R.cells) (hs : slots ≤ R.slots) (hq : Q (some (.long z)) T.heap locs) : Go p e s below R Q T (mkF m pc Ls (.long z :: rest)) :=
  Go.retO X hx hlk hret rfl (Or.inr (Or.inl ⟨rfl, rfl, _, rfl⟩)) hd hc hs hq
theorem Go.retD (X : Stand p l e R s m args below meth c T locs cells slots) (hx : p.tables.exec = Jvm.exec) (hlk : meth.locks = false) (hret : meth.sig.returnType = some .double) {pc : Nat} {Ls : Array Slot} {z : UInt64} {rest : List Value}
    (hd : decode c.code pc = .ok (.dreturn, 1)) (hc : cells ≤ R.cells) (hs : slots ≤ R.slots) (hq : Q (some (.double z)) T.heap locs) : Go p e s below R Q T (mkF m pc Ls (.double z :: rest)) :=
  Go.retO X hx hlk hret rfl (Or.inr (Or.inr (Or.inl ⟨rfl, rfl, _, rfl⟩))) hd hc hs hq
theorem Go.retA (X : Stand p l e R s m args below meth c T locs cells slots) (hx : p.tables.exec = Jvm.exec) (hlk : meth.locks = false) {t : FieldType} (hret : meth.sig.returnType = some t) (ht : t.isReference = true) {pc : Nat} {Ls : Array Slot} {w : Value} {rest : List Value}
    (hw : w.isRef = true) (hd : decode c.code pc = .ok (.areturn, 1)) (hc : cells ≤ R.cells) (hs : slots ≤ R.slots) (hq : Q (some w) T.heap locs) : Go p e s below R Q T (mkF m pc Ls (w :: rest)) :=
  Go.retO X hx hlk hret (by cases t <;> first | (cases ht; done) | rfl) (Or.inr (Or.inr (Or.inr (Or.inr ⟨rfl, ht, hw⟩)))) hd hc hs hq
theorem Go.retB (X : Stand p l e R s m args below meth c T locs cells slots) (hx : p.tables.exec = Jvm.exec) (hlk : meth.locks = false) {t : FieldType} (hret : meth.sig.returnType = some t) (ht : t = .boolean ∨ t = .byte ∨ t = .char ∨ t = .short) {pc : Nat} {Ls : Array Slot} {z : Int32} {rest : List Value}
    (hd : decode c.code pc = .ok (.ireturn, 1)) (hc : cells ≤ R.cells) (hs : slots ≤ R.slots) {z' : Int32} (hz : nar t z = z') (hq : Q (some (.int z')) T.heap locs) : Go p e s below R Q T (mkF m pc Ls (.int z :: rest)) := by
  subst hz
  obtain ⟨fs, hr, hrun, hended, hW, hsame⟩ := X.leave (v := some (.int (nar t z))) (fun h => by rw [hret] at h; cases h) hlk
  exact ⟨_, _, retN X hx hret ht hd hr, hrun, hended, _, _, rfl, hq, ⟨_, rfl⟩, hW, hsame.mono hc hs⟩
theorem Go.retV (X : Stand p l e R s m args below meth c T locs cells slots) (hx : p.tables.exec = Jvm.exec) (hlk : meth.locks = false) (hret : meth.sig.returnType = none) {pc : Nat} {Ls : Array Slot}
    (hd : decode c.code pc = .ok (.return_, 1)) (hc : cells ≤ R.cells) (hs : slots ≤ R.slots) (hq : Q none T.heap locs) : Go p e s below R Q T (mkF m pc Ls []) := by
  obtain ⟨fs, hr, hrun, hended, hW, hsame⟩ := X.leave (v := none) (fun _ => rfl) hlk
  exact ⟨_, _, X.returnOut hx hret hd hr, hrun, hended, _, _, rfl, hq, ⟨_, rfl⟩, hW, hsame.mono hc hs⟩
/-- a body's contract: handed as', over the heap h, it returns and Q holds -/
def Ok (l : Launch) (Z : State) (y : MethodName) (bytes : ByteArray) (maxL : Nat) (ret : Option FieldType) (rm : Room) (as' : Array Value) (h : Heap) (Q : Option Value → Heap → List Loc → Prop) : Prop :=
  ∀ ws : List Jvm.Cond, MetFree l y (head1 (Jvm.Cond.code y bytes maxL ret :: ws) rm) (fun a U => a = as' ∧ Z.Warmed39 U.vm ∧ U.heap = h) (fun _ _ _ _ _ => True) (fun _ U o U' => ∃ v L, o = .returned v ∧ Q v U'.heap L ∧ FrameEnd U o U' L rm.cells rm.slots)
theorem Ok.mk {y : MethodName} {bytes : ByteArray} {maxL : Nat} {ret : Option FieldType} {rm : Room} {as' : Array Value} (hn : plainFor y = true)
    (k : ∀ p e s m below meth c s₁, p.tables.exec = Jvm.exec → c.code = bytes → c.maxLocals = maxL → s.vm.findClass y.cls = some m.cls → meth.name = y.name → meth.sig.returnType = ret → meth.locks = false → Z.Warmed39 s.vm → s₁.heap = h → Stand p l e rm s m as' below meth c s₁ [] 0 0 → Go p e s below rm Q s₁ (entryFrame m as' maxL)) :
    Ok l Z y bytes maxL ret rm as' h Q := by
  intro ws
  refine MetFree.of_bodySF hn hisR ?_
  intro p e s m args below meth c s₁ Bd hml0 hP hK
  obtain ⟨rfl, hZ, hh⟩ := hP
  exact k p e s m below meth c s₁ Bd.exec Bd.bytes hml0 (findClass_of_methodNamed Bd.named) (name_of_methodNamed Bd.named Bd.method).1 Bd.returns Bd.notSynchronized hZ (by rw [← hh, Bd.state]; rfl) (Stand.of_body Bd)
theorem callSt (X : Stand p l e R s m args below meth c T locs cells slots) (hx : p.tables.exec = Jvm.exec) (hZ : Z.Warmed39 s.vm) {own : String} {index : Nat} {y : MethodName} {bytes : ByteArray} {maxL : Nat} {ret : Option FieldType} {rm : Room} {as' : Array Value}
    (hown : s.vm.findClass own = some m.cls) (w1 : (Jvm.Cond.methodLink own index y).before a0 Z = true) (w2 : (Jvm.Cond.static y).before a0 Z = true) (w3 : (Jvm.Cond.initialized y.cls).before a0 Z = true) (w4 : (Jvm.Cond.code y bytes maxL ret).before a0 Z = true)
    (hy : y.cls ≠ "java/lang/invoke/MethodHandle" ∧ y.cls ≠ "java/lang/invoke/VarHandle") (hM : Ok l Z y bytes maxL ret rm as' h Q) (eT : T.heap = h) {W : Nat} (hf : rm.frames + 1 ≤ R.frames) (hl : W + (maxL + 11) + rm.locals ≤ R.locals) (hc : cells + rm.cells ≤ R.cells) (hs : slots + rm.slots ≤ R.slots)
    {g : JFrame} (hg : g.method = m) (hsize : g.locals.size = c.maxLocals) {argsL rest : List Value} (hlen : ∀ sig, parseMethodDescriptor y.desc = some sig → argsL.length = sig.parameters.length) (has : argsL.toArray = as')
    (hstack : g.stack = argsL.reverse ++ rest) (hW : 2 * g.monitorRoom + (rest.map fun v => v.category).sum ≤ W) (hd : decode c.code g.pc = .ok (.invokestatic index, 3)) :
    ∃ T' v L, Stand p l e R s m args below meth c T' (locs ++ L) (cells + rm.cells) (slots + rm.slots) ∧ Q v T'.heap L ∧ ∀ t, Steps p.tables e below (T'.setTop { g with pc := g.pc + 3, stack := v.toList ++ rest }) t → Steps p.tables e below (T.setTop g) t := by
  subst has
  obtain ⟨v, _, ⟨T1, L1, k1, n1⟩, -, X1, ⟨Lc, hQ, l1, y1, z1⟩, st⟩ := Jvm.LawKit.callS X hx (y := y) hown (mvT hZ w1) (mvT hZ w2) (mvT hZ w3) (mvT hZ w4) hy (backOf (W := W) (hM []) hZ w4 w3 hf hl) hg hsize hlen hstack hW hd (fun _ _ => ⟨rfl, eT, hc, hs⟩)
  dsimp only [Pt.U, Pt.locs, Pt.cells, Pt.slots] at X1 l1 y1 z1 st hQ
  subst l1 y1 z1
  exact ⟨T1, v, Lc, X1, hQ, st⟩
theorem callNew (X : Stand p l e R s m args below meth c T locs cells slots) (hx : p.tables.exec = Jvm.exec) (hZ : Z.Warmed39 s.vm) {own : String} {index : Nat} {y : MethodName} {bytes : ByteArray} {maxL : Nat} {rm : Room} {as' : Array Value} (hy1 : y.name = "<init>")
    (hown : s.vm.findClass own = some m.cls) (w1 : (Jvm.Cond.methodLink own index y).before a0 Z = true) (w2 : (Jvm.Cond.instanceMethod y).before a0 Z = true) (w3 : (Jvm.Cond.initialized y.cls).before a0 Z = true) (w4 : (Jvm.Cond.code y bytes maxL none).before a0 Z = true)
    (hy : y.cls ≠ "java/lang/invoke/MethodHandle" ∧ y.cls ≠ "java/lang/invoke/VarHandle") (hM : Ok l Z y bytes maxL none rm as' h Q) (eT : T.heap = h) {W : Nat} (hf : rm.frames + 1 ≤ R.frames) (hl : W + (maxL + 11) + rm.locals ≤ R.locals) (hc : cells + rm.cells ≤ R.cells) (hs : slots + rm.slots ≤ R.slots)
    {g : JFrame} (hg : g.method = m) (hsize : g.locals.size = c.maxLocals) {a : Addr} {argsL rest : List Value} (hlen : ∀ sig, parseMethodDescriptor y.desc = some sig → argsL.length = sig.parameters.length) (has : (.ref a :: argsL).toArray = as')
    (hstack : g.stack = argsL.reverse ++ .ref a :: rest) (hW : 2 * g.monitorRoom + (rest.map fun v => v.category).sum ≤ W) (hd : decode c.code g.pc = .ok (.invokespecial index, 3)) :
    ∃ T' v L, Stand p l e R s m args below meth c T' (locs ++ L) (cells + rm.cells) (slots + rm.slots) ∧ Q v T'.heap L ∧ ∀ t, Steps p.tables e below (T'.setTop { g with pc := g.pc + 3, stack := v.toList ++ rest }) t → Steps p.tables e below (T.setTop g) t := by
  subst has
  obtain ⟨v, _, ⟨T1, L1, k1, n1⟩, -, X1, ⟨Lc, hQ, l1, y1, z1⟩, st⟩ := X.specialBack hx (y := y) hy1 hown (mvT hZ w1) (mvT hZ w2) (mvT hZ w4) hy (backOf (W := W) (hM []) hZ w4 w3 hf hl) hg hsize (Steps.refl _) (a := a) hlen hstack hW hd (fun _ _ => ⟨rfl, eT, hc, hs⟩)
  dsimp only [Pt.U, Pt.locs, Pt.cells, Pt.slots] at X1 l1 y1 z1 st hQ
  subst l1 y1 z1
  exact ⟨T1, v, Lc, X1, hQ, fun t k => st.trans k⟩
theorem callVi (X : Stand p l e R s m args below meth c T locs cells slots) (hx : p.tables.exec = Jvm.exec) (hZ : Z.Warmed39 s.vm) {own C : String} {index : Nat} {y z : MethodName} {bytes : ByteArray} {maxL : Nat} {ret : Option FieldType} {rm : Room} {as' : Array Value}
    (hown : s.vm.findClass own = some m.cls) (w1 : (Jvm.Cond.methodLink own index y).before a0 Z = true) (w2 : (Jvm.Cond.declares y).before a0 Z = true) (nf : NotFace s y) (w3 : (Jvm.Cond.selects C y z).before a0 Z = true) (w4 : (Jvm.Cond.instanceMethod z).before a0 Z = true) (w5 : (Jvm.Cond.code z bytes maxL ret).before a0 Z = true) (w6 : (Jvm.Cond.initialized z.cls).before a0 Z = true)
    (hy : y.cls ≠ "java/lang/invoke/MethodHandle" ∧ y.cls ≠ "java/lang/invoke/VarHandle") (hM : Ok l Z z bytes maxL ret rm as' h Q) (eT : T.heap = h) {W : Nat} (hf : rm.frames + 1 ≤ R.frames) (hl : W + (maxL + 11) + rm.locals ≤ R.locals) (hc : cells + rm.cells ≤ R.cells) (hs : slots + rm.slots ≤ R.slots)
    {a : Addr} (E : Exa Z h a C) {g : JFrame} (hg : g.method = m) (hsize : g.locals.size = c.maxLocals) {argsL rest : List Value} (hlen : ∀ sig, parseMethodDescriptor y.desc = some sig → argsL.length = sig.parameters.length) (has : (.ref a :: argsL).toArray = as')
    (hstack : g.stack = argsL.reverse ++ .ref a :: rest) (hW : 2 * g.monitorRoom + (rest.map fun v => v.category).sum ≤ W) (hd : decode c.code g.pc = .ok (.invokevirtual index, 3)) :
    ∃ T' v L, Stand p l e R s m args below meth c T' (locs ++ L) (cells + rm.cells) (slots + rm.slots) ∧ Q v T'.heap L ∧ ∀ t, Steps p.tables e below (T'.setTop { g with pc := g.pc + 3, stack := v.toList ++ rest }) t → Steps p.tables e below (T.setTop g) t := by
  subst has
  obtain ⟨cq, kq, qa, qb, qc⟩ := isOf hZ eT E
  obtain ⟨v, _, ⟨T1, L1, k1, n1⟩, -, X1, ⟨Lc, hQ, l1, y1, z1⟩, st⟩ := X.virtualBack hx (y := y) (z := z) hown (mvT hZ w1) (mvT hZ w2) nf (mvT hZ w3) (mvT hZ w4) hy (backOf (W := W) (hM []) hZ w5 w6 hf hl) qa qc hg hsize (Steps.refl _) hlen hstack hW hd (fun _ _ => ⟨rfl, eT, hc, hs⟩)
  dsimp only [Pt.U, Pt.locs, Pt.cells, Pt.slots] at X1 l1 y1 z1 st hQ
  subst l1 y1 z1
  exact ⟨T1, v, Lc, X1, hQ, fun t k => st.trans k⟩
/-- a new object at the address a: a fresh name for the heap's end -/
theorem newOb (X : Stand p l e R s m args below meth c T locs cells slots) (hx : p.tables.exec = Jvm.exec) (hZ : Z.Warmed39 s.vm) {own C : String} {index n : Nat} (hown : s.vm.findClass own = some m.cls) (w : (Jvm.Cond.classLink own index C).before a0 Z = true) (wi : (Jvm.Cond.instantiable C n).before a0 Z = true) (wz : (Jvm.Cond.initialized C).before a0 Z = true) (eT : T.heap = h)
    {g : JFrame} (hg : g.method = m) (hd : decode c.code g.pc = .ok (.new index, 3)) (hc : cells + 1 ≤ R.cells) (hl : slots + n ≤ R.slots) :
    ∃ T' h' a, a = h.size ∧ Stand p l e R s m args below meth c T' locs (cells + 1) (slots + n) ∧ T'.heap = h' ∧ Ext h h' ∧ Exa Z h' a C ∧ (∀ {O nm d : String} {ty : FieldType}, Laid Z a0 C O nm d → parseFieldDescriptor d = some ty → Fld Z h' a O nm d (defaultValue ty)) ∧
      ∀ t, Steps p.tables e below (T'.setTop { g with pc := g.pc + 3, stack := .ref a :: g.stack }) t → Steps p.tables e below (T.setTop g) t := by
  obtain ⟨T2, h2, X2, e2, E2, A2, D2, -, st2⟩ := newO X hx hZ hown w wi wz eT hg hd hc hl
  exact ⟨T2, h2, h.size, rfl, X2, e2, E2, A2, D2, st2⟩
theorem Old0.keep {ws : List Addr} (X : Ext Z.heap h) (K : Keep h h' ws) (q : ∀ x ∈ ws, Z.heap.size ≤ x) : Ext Z.heap h' := (Old.keep (n0 := Z.heap.size) ⟨rfl, X⟩ K q).2
theorem Old0.wr {a : Addr} {sl : Nat} {v : Value} (X : Ext Z.heap h) (W : Wr h h' a sl v) (q : Z.heap.size ≤ a) : Ext Z.heap h' := (Old.wr (n0 := Z.heap.size) ⟨rfl, X⟩ W q).2
theorem Old0.ext (X : Ext Z.heap h) (E : Ext h h') : Ext Z.heap h' := (Old.ext (n0 := Z.heap.size) ⟨rfl, X⟩ E).2
theorem ext_rfl : Ext h h := ⟨Nat.le_refl _, fun _ _ q => q⟩
theorem eqI_v {first : State} {o : Option Outcome} {idx : List Nat} {a : Term} {k : Int32} (q : (Jvm.Cond.eq a (.int k)).value args first o s idx = some true) : a.eval args first o idx s = some (.int k) := by
  cases ha : a.eval args first o idx s with
  | none => simp [Jvm.Cond.value, ha] at q
  | some x => cases x <;> simp [Jvm.Cond.value, ha, Term.eval] at q ⊢; exact q
theorem eqJ_v {first : State} {o : Option Outcome} {idx : List Nat} {a : Term} {k : Int64} (q : (Jvm.Cond.eq a (.long k)).value args first o s idx = some true) : a.eval args first o idx s = some (.long k) := by
  cases ha : a.eval args first o idx s with
  | none => simp [Jvm.Cond.value, ha] at q
  | some x => cases x <;> simp [Jvm.Cond.value, ha, Term.eval] at q ⊢; exact q
theorem neI_v {first : State} {o : Option Outcome} {idx : List Nat} {a : Term} {x k : Int32} (ha : a.eval args first o idx s = some (.int x)) (q : (Jvm.Cond.not (.eq a (.int k))).value args first o s idx = some true) : ¬ x = k := by
  have q' := not_v q
  intro e
  subst e
  simp [Jvm.Cond.value, ha, Term.eval] at q'
theorem neR_v {first : State} {o : Option Outcome} {idx : List Nat} {a b : Term} {x y : Addr} (ha : a.eval args first o idx s = some (.ref x)) (hb : b.eval args first o idx s = some (.ref y)) (q : (Jvm.Cond.not (.eq a b)).value args first o s idx = some true) : ¬ x = y := by
  have q' := not_v q
  intro e
  subst e
  simp [Jvm.Cond.value, ha, hb] at q'
theorem eqR_v {first : State} {o : Option Outcome} {idx : List Nat} {a b : Term} {x : Addr} (hb : b.eval args first o idx s = some (.ref x)) (q : (Jvm.Cond.eq a b).value args first o s idx = some true) : a.eval args first o idx s = some (.ref x) := by
  cases ha : a.eval args first o idx s with
  | none => simp [Jvm.Cond.value, ha] at q
  | some x => cases x <;> simp [Jvm.Cond.value, ha, hb] at q ⊢; exact q
theorem callPr (X : Stand p l e R s m args below meth c T locs cells slots) (hx : p.tables.exec = Jvm.exec) (hZ : Z.Warmed39 s.vm) {own : String} {index : Nat} {y : MethodName} {bytes : ByteArray} {maxL : Nat} {ret : Option FieldType} {rm : Room} {as' : Array Value}
    (hown : s.vm.findClass own = some m.cls) (w1 : (Jvm.Cond.methodLink own index y).before a0 Z = true) (w2 : (Jvm.Cond.instanceMethod y).before a0 Z = true) (w3 : (Jvm.Cond.selects y.cls y y).before a0 Z = true) (w4 : (Jvm.Cond.privateMethod y).before a0 Z = true) (w5 : (Jvm.Cond.initialized y.cls).before a0 Z = true) (w6 : (Jvm.Cond.code y bytes maxL ret).before a0 Z = true)
    (hy : y.cls ≠ "java/lang/invoke/MethodHandle" ∧ y.cls ≠ "java/lang/invoke/VarHandle") (hM : Ok l Z y bytes maxL ret rm as' h Q) (eT : T.heap = h) {W : Nat} (hf : rm.frames + 1 ≤ R.frames) (hl : W + (maxL + 11) + rm.locals ≤ R.locals) (hc : cells + rm.cells ≤ R.cells) (hs : slots + rm.slots ≤ R.slots)
    {C : String} {a : Addr} (E : Exa Z h a C) {g : JFrame} (hg : g.method = m) (hsize : g.locals.size = c.maxLocals) {argsL rest : List Value} (hlen : ∀ sig, parseMethodDescriptor y.desc = some sig → argsL.length = sig.parameters.length) (has : (.ref a :: argsL).toArray = as')
    (hstack : g.stack = argsL.reverse ++ .ref a :: rest) (hW : 2 * g.monitorRoom + (rest.map fun v => v.category).sum ≤ W) (hd : decode c.code g.pc = .ok (.invokevirtual index, 3)) :
    ∃ T' v L, Stand p l e R s m args below meth c T' (locs ++ L) (cells + rm.cells) (slots + rm.slots) ∧ Q v T'.heap L ∧ ∀ t, Steps p.tables e below (T'.setTop { g with pc := g.pc + 3, stack := v.toList ++ rest }) t → Steps p.tables e below (T.setTop g) t := by
  subst has
  obtain ⟨cq, q1, q2⟩ := E.cell
  obtain ⟨v, _, ⟨T1, L1, k1, n1⟩, -, X1, ⟨Lc, hQ, l1, y1, z1⟩, st⟩ := X.privateBack hx (y := y) hown (mvT hZ w1) (mvT hZ w2) (mvT hZ w3) (Cond.privateMethod_at (mvP hZ w4 (args := #[]))) (mvT hZ w6) hy (backOf (W := W) (hM []) hZ w6 w5 hf hl) hg hsize (Steps.refl _) (a := a) (by rw [eT]; exact q1) q2 hlen hstack hW hd (fun _ _ => ⟨rfl, eT, hc, hs⟩)
  dsimp only [Pt.U, Pt.locs, Pt.cells, Pt.slots] at X1 l1 y1 z1 st hQ
  subst l1 y1 z1
  exact ⟨T1, v, Lc, X1, hQ, fun t k => st.trans k⟩
theorem callIf (X : Stand p l e R s m args below meth c T locs cells slots) (hx : p.tables.exec = Jvm.exec) (hZ : Z.Warmed39 s.vm) {own C : String} {index count : Nat} {xi y : MethodName} {bytes : ByteArray} {maxL : Nat} {ret : Option FieldType} {rm : Room} {as' : Array Value}
    (hown : s.vm.findClass own = some m.cls) (w1 : (Jvm.Cond.methodLink own index xi).before a0 Z = true) (w2 : (Jvm.Cond.declares xi).before a0 Z = true) (w3 : (Jvm.Cond.interfaceMethod xi.cls xi.cls xi.name xi.desc).before args s = true) (w4 : (Jvm.Cond.selects C xi y).before a0 Z = true) (w5 : (Jvm.Cond.instanceMethod y).before a0 Z = true) (w6 : (Jvm.Cond.publicMethod y).before a0 Z = true) (w7 : (Jvm.Cond.unhidden C xi.name xi.desc).before a0 Z = true) (w8 : (Jvm.Cond.castable C xi.cls).before a0 Z = true) (w9 : (Jvm.Cond.code y bytes maxL ret).before a0 Z = true) (w10 : (Jvm.Cond.initialized y.cls).before a0 Z = true)
    (hy : xi.cls ≠ "java/lang/invoke/MethodHandle" ∧ xi.cls ≠ "java/lang/invoke/VarHandle") (hM : Ok l Z y bytes maxL ret rm as' h Q) (eT : T.heap = h) {W : Nat} (hf : rm.frames + 1 ≤ R.frames) (hl : W + (maxL + 11) + rm.locals ≤ R.locals) (hc : cells + rm.cells ≤ R.cells) (hs : slots + rm.slots ≤ R.slots)
    {a : Addr} (E : Exa Z h a C) {g : JFrame} (hg : g.method = m) (hsize : g.locals.size = c.maxLocals) {argsL rest : List Value} (hlen : ∀ sig, parseMethodDescriptor xi.desc = some sig → argsL.length = sig.parameters.length) (has : (.ref a :: argsL).toArray = as')
    (hstack : g.stack = argsL.reverse ++ .ref a :: rest) (hW : 2 * g.monitorRoom + (rest.map fun v => v.category).sum ≤ W) (hd : decode c.code g.pc = .ok (.invokeinterface index count, 5)) :
    ∃ T' v L, Stand p l e R s m args below meth c T' (locs ++ L) (cells + rm.cells) (slots + rm.slots) ∧ Q v T'.heap L ∧ ∀ t, Steps p.tables e below (T'.setTop { g with pc := g.pc + 5, stack := v.toList ++ rest }) t → Steps p.tables e below (T.setTop g) t := by
  subst has
  obtain ⟨cq, kq, qa, qb, qc⟩ := isOf hZ eT E
  obtain ⟨v, _, ⟨T1, L1, k1, n1⟩, -, X1, ⟨Lc, hQ, l1, y1, z1⟩, st⟩ := X.interfaceBack hx (xi := xi) (y := y) hown (mvT hZ w1) (mvT hZ w2) w3 (mvT hZ w4) (mvT hZ w5) (mvT hZ w6) (mvT hZ w7) (mvT hZ w8) hy (backOf (W := W) (hM []) hZ w9 w10 hf hl) qa qb qc hg hsize (Steps.refl _) hlen hstack hW hd (fun _ _ => ⟨rfl, eT, hc, hs⟩)
  dsimp only [Pt.U, Pt.locs, Pt.cells, Pt.slots] at X1 l1 y1 z1 st hQ
  subst l1 y1 z1
  exact ⟨T1, v, Lc, X1, hQ, fun t k => st.trans k⟩
theorem newAr (X : Stand p l e R s m args below meth c T locs cells slots) (hx : p.tables.exec = Jvm.exec) (hZ : Z.Warmed39 s.vm) {aty : ArrayType} (w : (Jvm.Cond.arrayClass (newarray.typeOf aty)).before a0 Z = true) (eT : T.heap = h) {g : JFrame} (hg : g.method = m) (hd : decode c.code g.pc = .ok (.newarray aty, 2)) {n : Int32} {rest : List Value} (hs : g.stack = .int n :: rest)
    (hn : ¬ n < 0) {cap : Nat} (hcap : n.toNatClampNeg ≤ cap) (hb : cap * 8 ≤ 536870912) (hc : cells + 1 ≤ R.cells) (hl : slots + cap ≤ R.slots) {ad : String} (had : "[" ++ (newarray.typeOf aty).toString = ad) :
    ∃ T' h' k a, a = h.size ∧ Stand p l e R s m args below meth c T' locs (cells + 1) (slots + cap) ∧ T'.heap = h' ∧ Ext h h' ∧ Arv Z h' a k (newarray.typeOf aty) n [] (defaultValue (newarray.typeOf aty)) ∧ Exa Z h' a ad ∧
      ∀ t, Steps p.tables e below (T'.setTop { g with pc := g.pc + 2, stack := .ref a :: rest }) t → Steps p.tables e below (T.setTop g) t := by
  obtain ⟨T2, h2, k, X2, e2, E2, A2, B2, st2⟩ := newPE X hx hZ w eT hg hd hs hn hcap hb hc hl had
  exact ⟨T2, h2, k, h.size, rfl, X2, e2, E2, Arv.new A2 hn, B2, st2⟩
theorem newRr (X : Stand p l e R s m args below meth c T locs cells slots) (hx : p.tables.exec = Jvm.exec) (hZ : Z.Warmed39 s.vm) {own C : String} {index : Nat} (hown : s.vm.findClass own = some m.cls) (w1 : (Jvm.Cond.classLink own index C).before a0 Z = true) (w2 : (Jvm.Cond.arrayOver (.object C)).before a0 Z = true)
    (eT : T.heap = h) {g : JFrame} (hg : g.method = m) (hd : decode c.code g.pc = .ok (.anewarray index, 3)) {n : Int32} {rest : List Value} (hs : g.stack = .int n :: rest) (hn : ¬ n < 0) {cap : Nat} (hcap : n.toNatClampNeg ≤ cap) (hb : cap * 8 ≤ 536870912) (hc : cells + 1 ≤ R.cells) (hl : slots + cap ≤ R.slots) {ad : String} (had : "[" ++ (FieldType.object C).toString = ad) :
    ∃ T' h' k a, a = h.size ∧ Stand p l e R s m args below meth c T' locs (cells + 1) (slots + cap) ∧ T'.heap = h' ∧ Ext h h' ∧ Arv Z h' a k (.object C) n [] .null ∧ Exa Z h' a ad ∧ Ovr Z k C ∧
      ∀ t, Steps p.tables e below (T'.setTop { g with pc := g.pc + 3, stack := .ref a :: rest }) t → Steps p.tables e below (T.setTop g) t := by
  obtain ⟨T2, h2, k, X2, e2, E2, A2, B2, O2, st2⟩ := newRE X hx hZ hown w1 w2 eT hg hd hs hn hcap hb hc hl had
  exact ⟨T2, h2, k, h.size, rfl, X2, e2, E2, Arv.new A2 hn, B2, O2, st2⟩
theorem own_len {t : Term} {a : Addr} {cl : Cell} {ty : FieldType} {k : Int32} (ev : t.eval args s none [] s = some (.ref a)) (A : Arr s s.heap a cl ty) (q : (Term.length t).eval args s none [] s = some (.int k)) : cl.slots.size < 2 ^ 31 ∧ cl.slots.size.toInt32 = k := by
  have ha := Arr.fin (U := s) (Vm.Alike.refl _) A
  simp only [Term.eval, ev] at q
  simp at q
  rw [ha] at q
  simp only [Option.bind_some] at q
  split at q
  · rename_i hlt
    simp only [Option.some.injEq, Value.int.injEq] at q
    exact ⟨hlt, q⟩
  · cases q
theorem own_el {t : Term} {a : Addr} {cl : Cell} {ty : FieldType} {j : Int32} {v : Value} (ev : t.eval args s none [] s = some (.ref a)) (A : Arr s s.heap a cl ty) (q : (Term.elem t (.int j)).eval args s none [] s = some v) : cl.slots[j.toNatClampNeg]? = some v :=
  (elem_in q ev rfl A.1).2
theorem cloneV (X : Stand p l e R s m args below meth c T locs cells slots) (hx : p.tables.exec = Jvm.exec) (hZ : Z.Warmed39 s.vm) {own ad : String} {index : Nat} (hown : s.vm.findClass own = some m.cls)
    (w1 : (Jvm.Cond.methodLink own index ⟨ad, "clone", "()Ljava/lang/Object;"⟩).before a0 Z = true) (w2 : (Jvm.Cond.sameMethod ad "java/lang/Object" "clone" "()Ljava/lang/Object;").before a0 Z = true) (w3 : (Jvm.Cond.native ⟨"java/lang/Object", "clone", "()Ljava/lang/Object;"⟩).before a0 Z = true)
    (w4 : (Jvm.Cond.instanceMethod ⟨"java/lang/Object", "clone", "()Ljava/lang/Object;"⟩).before a0 Z = true) (w5 : (Jvm.Cond.selects ad ⟨ad, "clone", "()Ljava/lang/Object;"⟩ ⟨"java/lang/Object", "clone", "()Ljava/lang/Object;"⟩).before a0 Z = true) (w6 : (Jvm.Cond.castable ad "java/lang/Cloneable").before a0 Z = true)
    (eT : T.heap = h) {b : Addr} {k : ClassId} {ty : FieldType} {z : Int32} {vs : List Value} {dv : Value} (F : Arv Z h b k ty z vs dv) (E : Exa Z h b ad) {g : JFrame} (hg : g.method = m) (hsize : g.locals.size = c.maxLocals) {rest : List Value} (hst : g.stack = .ref b :: rest) (hd : decode c.code g.pc = .ok (.invokevirtual index, 3))
    (hf : 1 ≤ R.frames) {W cap : Nat} (hW : 2 * g.monitorRoom + (rest.map fun v => v.category).sum ≤ W) (hl : W + 14 ≤ R.locals) (hcap : z.toNatClampNeg ≤ cap) (hc : cells + 1 ≤ R.cells) (hsl : slots + cap ≤ R.slots) :
    ∃ T' h' a, a = h.size ∧ Stand p l e R s m args below meth c T' locs (cells + 1) (slots + cap) ∧ T'.heap = h' ∧ Ext h h' ∧ Arv Z h' a k ty z vs dv ∧ Exa Z h' a ad ∧
      ∀ t, Steps p.tables e below (T'.setTop { g with pc := g.pc + 3, stack := .ref a :: rest }) t → Steps p.tables e below (T.setTop g) t := by
  obtain ⟨T2, h2, X2, e2, E2, A2, B2, st2⟩ := cloneH X hx hZ hown w1 w2 w3 w4 w5 w6 eT F.arh E hg hsize hst hd hf hW hl hcap hc hsl
  exact ⟨T2, h2, h.size, rfl, X2, e2, E2, A2, B2, st2⟩
end OwnKit
/-! ## own kit, string constants: the tables may have been warmed by an interned text -/
section OwnKitS
variable {p : Program} {l : Launch} {e : Env} {R : Room} {s : State} {m : MethodId} {args : Array Value} {below : List Frame} {meth : Method} {c : Code} {T T' : State} {locs : List Loc} {cells slots : Nat} {Q : Option Value → Heap → List Loc → Prop} {f f' : JFrame} {Z : State} {a0 : Array Value} {h h' : Heap} {EL : List (String × Nat)} {vm0 : Vm} {k0 : Nat}
def GoS (p : Program) (e : Env) (s : State) (below : List Frame) (R : Room) (Z : State) (EL : List (String × Nat)) (Q : Option Value → Heap → List Loc → Prop) (T : State) (f : JFrame) : Prop :=
  ∃ s₂ o, Steps p.tables e below (T.setTop f) s₂ ∧ s₂.status = .running ∧ Ended s₂ below o ∧ ∃ v L, o = .returned v ∧ Q v s₂.heap L ∧ CHr Z EL s.vm s.heap s₂.vm s₂.heap ∧ ReturnedEndW s o s₂ L R.cells R.slots
theorem GoS.of (k : ∀ t, Steps p.tables e below (T'.setTop f') t → Steps p.tables e below (T.setTop f) t) (G : GoS p e s below R Z EL Q T' f') : GoS p e s below R Z EL Q T f := by
  obtain ⟨s2, o, h1, h2⟩ := G
  exact ⟨s2, o, k _ h1, h2⟩
theorem GoS.cast (q : f = f') (G : GoS p e s below R Z EL Q T f') : GoS p e s below R Z EL Q T f := q ▸ G
theorem GoS.fin (X : Stand p l e R (s.setVm vm0) m args below meth c T locs cells slots) (hlk : meth.locks = false) (hS : s.Since vm0 k0) (hk : k0 ≤ h.size) (hZ : Z.Warmed39 vm0) (hEL : EW Z a0 EL) (C : CHr Z EL s.vm s.heap vm0 h) (eT : T.heap = h) {v : Option Value} (hv : meth.sig.returnType = none → v = none) (hc : cells ≤ R.cells) (hs : slots ≤ R.slots) (hq : Q v T.heap locs)
    (step : ∀ fs, (∀ (f : JFrame) (acts : List Action), f.method = m → f.locked = none → f.entered = [] → (doReturn e (T.setTop f) acts v).1 = T.setFrames fs) → Steps p.tables e below (T.setTop f) (T.setFrames fs)) : GoS p e s below R Z EL Q T f := by
  subst eT
  obtain ⟨fs, hr, hrun, hended, hW⟩ := X.leaveW hS hk hv hlk
  have A := CHv.at X hZ hEL C.1
  exact ⟨_, _, step fs hr, hrun, hended, v, locs, rfl, hq, C.trans A, hW.1, hW.2.1, hW.2.2.1, hW.2.2.2.mono hc hs⟩
theorem GoS.retO (X : Stand p l e R (s.setVm vm0) m args below meth c T locs cells slots) (hx : p.tables.exec = Jvm.exec) (hlk : meth.locks = false) (hS : s.Since vm0 k0) (hk : k0 ≤ h.size) (hZ : Z.Warmed39 vm0) (hEL : EW Z a0 EL) (C : CHr Z EL s.vm s.heap vm0 h) (eT : T.heap = h) {pc : Nat} {Ls : Array Slot} {w : Value} {t : FieldType} {i : Instr} {rest : List Value} (hret : meth.sig.returnType = some t) (hn : narrow t w = w)
    (hi : (i = .ireturn ∧ (t = .int ∨ t = .boolean ∨ t = .byte ∨ t = .char ∨ t = .short) ∧ ∃ z, w = .int z) ∨ (i = .lreturn ∧ t = .long ∧ ∃ z, w = .long z) ∨ (i = .dreturn ∧ t = .double ∧ ∃ z, w = .double z) ∨ (i = .freturn ∧ t = .float ∧ ∃ z, w = .float z) ∨ (i = .areturn ∧ t.isReference = true ∧ w.isRef = true))
    (hd : decode c.code pc = .ok (i, 1)) (hc : cells ≤ R.cells) (hs : slots ≤ R.slots) (hq : Q (some w) T.heap locs) : GoS p e s below R Z EL Q T (mkF m pc Ls (w :: rest)) :=
  GoS.fin X hlk hS hk hZ hEL C eT (fun h => by rw [hret] at h; cases h) hc hs hq (fun fs hr => retOut X hx hret hn hi hd hr)
theorem GoS.retI (X : Stand p l e R (s.setVm vm0) m args below meth c T locs cells slots) (hx : p.tables.exec = Jvm.exec) (hlk : meth.locks = false) (hS : s.Since vm0 k0) (hk : k0 ≤ h.size) (hZ : Z.Warmed39 vm0) (hEL : EW Z a0 EL) (C : CHr Z EL s.vm s.heap vm0 h) (eT : T.heap = h) (hret : meth.sig.returnType = some .int) {pc : Nat} {Ls : Array Slot} {z : Int32} {rest : List Value}
    (hd : decode c.code pc = .ok (.ireturn, 1)) (hc : cells ≤ R.cells) (hs : slots ≤ R.slots) (hq : Q (some (.int z)) T.heap locs) : GoS p e s below R Z EL Q T (mkF m pc Ls (.int z :: rest)) :=
  GoS.retO X hx hlk hS hk hZ hEL C eT hret rfl (Or.inl ⟨rfl, Or.inl rfl, _, rfl⟩) hd hc hs hq
theorem GoS.retA (X : Stand p l e R (s.setVm vm0) m args below meth c T locs cells slots) (hx : p.tables.exec = Jvm.exec) (hlk : meth.locks = false) (hS : s.Since vm0 k0) (hk : k0 ≤ h.size) (hZ : Z.Warmed39 vm0) (hEL : EW Z a0 EL) (C : CHr Z EL s.vm s.heap vm0 h) (eT : T.heap = h) {t : FieldType} (hret : meth.sig.returnType = some t) (ht : t.isReference = true) {pc : Nat} {Ls : Array Slot} {w : Value} {rest : List Value}
    (hw : w.isRef = true) (hd : decode c.code pc = .ok (.areturn, 1)) (hc : cells ≤ R.cells) (hs : slots ≤ R.slots) (hq : Q (some w) T.heap locs) : GoS p e s below R Z EL Q T (mkF m pc Ls (w :: rest)) :=
  GoS.retO X hx hlk hS hk hZ hEL C eT hret (by cases t <;> first | (cases ht; done) | rfl) (Or.inr (Or.inr (Or.inr (Or.inr ⟨rfl, ht, hw⟩)))) hd hc hs hq
theorem GoS.retB (X : Stand p l e R (s.setVm vm0) m args below meth c T locs cells slots) (hx : p.tables.exec = Jvm.exec) (hlk : meth.locks = false) (hS : s.Since vm0 k0) (hk : k0 ≤ h.size) (hZ : Z.Warmed39 vm0) (hEL : EW Z a0 EL) (C : CHr Z EL s.vm s.heap vm0 h) (eT : T.heap = h) {t : FieldType} (hret : meth.sig.returnType = some t) (ht : t = .boolean ∨ t = .byte ∨ t = .char ∨ t = .short) {pc : Nat} {Ls : Array Slot} {z : Int32} {rest : List Value}
    (hd : decode c.code pc = .ok (.ireturn, 1)) (hc : cells ≤ R.cells) (hs : slots ≤ R.slots) {z' : Int32} (hz : nar t z = z') (hq : Q (some (.int z')) T.heap locs) : GoS p e s below R Z EL Q T (mkF m pc Ls (.int z :: rest)) := by
  subst hz
  exact GoS.fin X hlk hS hk hZ hEL C eT (fun h => by rw [hret] at h; cases h) hc hs hq (fun fs hr => retN X hx hret ht hd hr)
theorem GoS.retV (X : Stand p l e R (s.setVm vm0) m args below meth c T locs cells slots) (hx : p.tables.exec = Jvm.exec) (hlk : meth.locks = false) (hS : s.Since vm0 k0) (hk : k0 ≤ h.size) (hZ : Z.Warmed39 vm0) (hEL : EW Z a0 EL) (C : CHr Z EL s.vm s.heap vm0 h) (eT : T.heap = h) (hret : meth.sig.returnType = none) {pc : Nat} {Ls : Array Slot}
    (hd : decode c.code pc = .ok (.return_, 1)) (hc : cells ≤ R.cells) (hs : slots ≤ R.slots) (hq : Q none T.heap locs) : GoS p e s below R Z EL Q T (mkF m pc Ls []) :=
  GoS.fin X hlk hS hk hZ hEL C eT (fun _ => rfl) hc hs hq (fun fs hr => X.returnOut hx hret hd hr)
def OkS (l : Launch) (Z : State) (EL : List (String × Nat)) (y : MethodName) (bytes : ByteArray) (maxL : Nat) (ret : Option FieldType) (rm : Room) (as' : Array Value) (h : Heap) (Q : Option Value → Heap → List Loc → Prop) : Prop :=
  ∀ ws : List Jvm.Cond, MetFree l y (head1 (Jvm.Cond.code y bytes maxL ret :: ws) rm) (fun a U => a = as' ∧ Z.Warmed39 U.vm ∧ U.heap = h ∧ CHv Z EL U.vm h) (fun _ _ _ _ _ => True) (fun _ U o U' => ∃ v L, o = .returned v ∧ Q v U'.heap L ∧ CHr Z EL U.vm U.heap U'.vm U'.heap ∧ ReturnedEndW U o U' L rm.cells rm.slots)
theorem OkS.mk {y : MethodName} {bytes : ByteArray} {maxL : Nat} {ret : Option FieldType} {rm : Room} {as' : Array Value} (hn : plainFor y = true)
    (k : ∀ p e s m below meth c s₁, p.tables.exec = Jvm.exec → c.code = bytes → c.maxLocals = maxL → s.vm.findClass y.cls = some m.cls → meth.name = y.name → meth.sig.returnType = ret → meth.locks = false → Z.Warmed39 s.vm → s₁.heap = h → CHr Z EL s.vm s.heap s.vm h → s.Since s.vm 0 → Stand p l e rm (s.setVm s.vm) m as' below meth c s₁ [] 0 0 → GoS p e s below rm Z EL Q s₁ (entryFrame m as' maxL)) :
    OkS l Z EL y bytes maxL ret rm as' h Q := by
  intro ws
  refine MetFree.of_bodySF hn hisR ?_
  intro p e s m args below meth c s₁ Bd hml0 hP hK
  obtain ⟨rfl, hZ, hh, hC⟩ := hP
  exact k p e s m below meth c s₁ Bd.exec Bd.bytes hml0 (findClass_of_methodNamed Bd.named) (name_of_methodNamed Bd.named Bd.method).1 Bd.returns Bd.notSynchronized hZ (by rw [← hh, Bd.state]; rfl) (by rw [hh]; exact CHr.refl hC) ((State.WarmedH.refl s).since 0) (Stand.of_body Bd)
theorem callStS (X : Stand p l e R (s.setVm vm0) m args below meth c T locs cells slots) (hx : p.tables.exec = Jvm.exec) (hZ : Z.Warmed39 vm0) {own : String} {index : Nat} {y : MethodName} {bytes : ByteArray} {maxL : Nat} {ret : Option FieldType} {rm : Room} {as' : Array Value}
    (hS : s.Since vm0 k0) (hk : k0 ≤ h.size) (hEL : EW Z a0 EL) (H : CHv Z EL vm0 h)
    (hown : vm0.findClass own = some m.cls) (w1 : (Jvm.Cond.methodLink own index y).before a0 Z = true) (w2 : (Jvm.Cond.static y).before a0 Z = true) (w3 : (Jvm.Cond.initialized y.cls).before a0 Z = true) (w4 : (Jvm.Cond.code y bytes maxL ret).before a0 Z = true)
    (hy : y.cls ≠ "java/lang/invoke/MethodHandle" ∧ y.cls ≠ "java/lang/invoke/VarHandle") (hM : OkS l Z EL y bytes maxL ret rm as' h Q) (eT : T.heap = h) {W : Nat} (hf : rm.frames + 1 ≤ R.frames) (hl : W + (maxL + 11) + rm.locals ≤ R.locals) (hc : cells + rm.cells ≤ R.cells) (hs : slots + rm.slots ≤ R.slots)
    {g : JFrame} (hg : g.method = m) (hsize : g.locals.size = c.maxLocals) {argsL rest : List Value} (hlen : ∀ sig, parseMethodDescriptor y.desc = some sig → argsL.length = sig.parameters.length) (has : argsL.toArray = as')
    (hstack : g.stack = argsL.reverse ++ rest) (hW : 2 * g.monitorRoom + (rest.map fun v => v.category).sum ≤ W) (hd : decode c.code g.pc = .ok (.invokestatic index, 3)) :
    ∃ T' v L, Stand p l e R (s.setVm T'.vm) m args below meth c T' (locs ++ L) (cells + rm.cells) (slots + rm.slots) ∧ Q v T'.heap L ∧ s.Since T'.vm T'.heap.size ∧ h.size ≤ T'.heap.size ∧ Z.Warmed39 T'.vm ∧ T'.vm.findClass own = some m.cls ∧ CHr Z EL vm0 h T'.vm T'.heap ∧ ∀ t, Steps p.tables e below (T'.setTop { g with pc := g.pc + 3, stack := v.toList ++ rest }) t → Steps p.tables e below (T.setTop g) t := by
  subst has
  subst eT
  obtain ⟨v, _, ⟨T1, L1, k1, n1⟩, -, X1, S1, g1, ⟨Lc, hQ, l1, y1, z1, c1⟩, st⟩ := callSS X hx (y := y) hown (mvT (s := s.setVm vm0) hZ w1) (mvT (s := s.setVm vm0) hZ w2) (mvT (s := s.setVm vm0) hZ w3) (mvT (s := s.setVm vm0) hZ w4) hy (backOfSH (W := W) (hM []) hZ w4 w3 hf hl hEL H) hg hsize hlen hstack hW hd (fun _ _ => ⟨rfl, rfl, hc, hs⟩)
  dsimp only [Pt.U, Pt.locs, Pt.cells, Pt.slots] at X1 l1 y1 z1 st hQ S1 g1 c1
  subst l1 y1 z1
  exact ⟨T1, v, Lc, X1, hQ, foldS hS hk S1 g1, g1, State.Warmed39.trans (t := s.setVm vm0) hZ S1.1, by rw [S1.1.alike.findClass]; exact hown, c1, fun t k => st.trans k⟩
theorem callNewS (X : Stand p l e R (s.setVm vm0) m args below meth c T locs cells slots) (hx : p.tables.exec = Jvm.exec) (hZ : Z.Warmed39 vm0) {own : String} {index : Nat} {y : MethodName} {bytes : ByteArray} {maxL : Nat} {rm : Room} {as' : Array Value} (hy1 : y.name = "<init>")
    (hS : s.Since vm0 k0) (hk : k0 ≤ h.size) (hEL : EW Z a0 EL) (H : CHv Z EL vm0 h)
    (hown : vm0.findClass own = some m.cls) (w1 : (Jvm.Cond.methodLink own index y).before a0 Z = true) (w2 : (Jvm.Cond.instanceMethod y).before a0 Z = true) (w3 : (Jvm.Cond.initialized y.cls).before a0 Z = true) (w4 : (Jvm.Cond.code y bytes maxL none).before a0 Z = true)
    (hy : y.cls ≠ "java/lang/invoke/MethodHandle" ∧ y.cls ≠ "java/lang/invoke/VarHandle") (hM : OkS l Z EL y bytes maxL none rm as' h Q) (eT : T.heap = h) {W : Nat} (hf : rm.frames + 1 ≤ R.frames) (hl : W + (maxL + 11) + rm.locals ≤ R.locals) (hc : cells + rm.cells ≤ R.cells) (hs : slots + rm.slots ≤ R.slots)
    {g : JFrame} (hg : g.method = m) (hsize : g.locals.size = c.maxLocals) {a : Addr} {argsL rest : List Value} (hlen : ∀ sig, parseMethodDescriptor y.desc = some sig → argsL.length = sig.parameters.length) (has : (.ref a :: argsL).toArray = as')
    (hstack : g.stack = argsL.reverse ++ .ref a :: rest) (hW : 2 * g.monitorRoom + (rest.map fun v => v.category).sum ≤ W) (hd : decode c.code g.pc = .ok (.invokespecial index, 3)) :
    ∃ T' v L, Stand p l e R (s.setVm T'.vm) m args below meth c T' (locs ++ L) (cells + rm.cells) (slots + rm.slots) ∧ Q v T'.heap L ∧ s.Since T'.vm T'.heap.size ∧ h.size ≤ T'.heap.size ∧ Z.Warmed39 T'.vm ∧ T'.vm.findClass own = some m.cls ∧ CHr Z EL vm0 h T'.vm T'.heap ∧ ∀ t, Steps p.tables e below (T'.setTop { g with pc := g.pc + 3, stack := v.toList ++ rest }) t → Steps p.tables e below (T.setTop g) t := by
  subst has
  subst eT
  obtain ⟨v, _, ⟨T1, L1, k1, n1⟩, -, X1, S1, g1, ⟨Lc, hQ, l1, y1, z1, c1⟩, st⟩ := X.specialBackS hx (y := y) hy1 hown (mvT (s := s.setVm vm0) hZ w1) (mvT (s := s.setVm vm0) hZ w2) (mvT (s := s.setVm vm0) hZ w4) hy (backOfSH (W := W) (hM []) hZ w4 w3 hf hl hEL H) hg hsize (Steps.refl _) (a := a) hlen hstack hW hd (fun _ _ => ⟨rfl, rfl, hc, hs⟩)
  dsimp only [Pt.U, Pt.locs, Pt.cells, Pt.slots] at X1 l1 y1 z1 st hQ S1 g1 c1
  subst l1 y1 z1
  exact ⟨T1, v, Lc, X1, hQ, foldS hS hk S1 g1, g1, State.Warmed39.trans (t := s.setVm vm0) hZ S1.1, by rw [S1.1.alike.findClass]; exact hown, c1, fun t k => st.trans k⟩
theorem callViS (X : Stand p l e R (s.setVm vm0) m args below meth c T locs cells slots) (hx : p.tables.exec = Jvm.exec) (hZ : Z.Warmed39 vm0) {own C : String} {index : Nat} {y z : MethodName} {bytes : ByteArray} {maxL : Nat} {ret : Option FieldType} {rm : Room} {as' : Array Value}
    (hS : s.Since vm0 k0) (hk : k0 ≤ h.size) (hEL : EW Z a0 EL) (H : CHv Z EL vm0 h)
    (hown : vm0.findClass own = some m.cls) (w1 : (Jvm.Cond.methodLink own index y).before a0 Z = true) (w2 : (Jvm.Cond.declares y).before a0 Z = true) (nf : NotFace (s.setVm vm0) y) (w3 : (Jvm.Cond.selects C y z).before a0 Z = true) (w4 : (Jvm.Cond.instanceMethod z).before a0 Z = true) (w5 : (Jvm.Cond.code z bytes maxL ret).before a0 Z = true) (w6 : (Jvm.Cond.initialized z.cls).before a0 Z = true)
    (hy : y.cls ≠ "java/lang/invoke/MethodHandle" ∧ y.cls ≠ "java/lang/invoke/VarHandle") (hM : OkS l Z EL z bytes maxL ret rm as' h Q) (eT : T.heap = h) {W : Nat} (hf : rm.frames + 1 ≤ R.frames) (hl : W + (maxL + 11) + rm.locals ≤ R.locals) (hc : cells + rm.cells ≤ R.cells) (hs : slots + rm.slots ≤ R.slots)
    {a : Addr} (E : Exa Z h a C) {g : JFrame} (hg : g.method = m) (hsize : g.locals.size = c.maxLocals) {argsL rest : List Value} (hlen : ∀ sig, parseMethodDescriptor y.desc = some sig → argsL.length = sig.parameters.length) (has : (.ref a :: argsL).toArray = as')
    (hstack : g.stack = argsL.reverse ++ .ref a :: rest) (hW : 2 * g.monitorRoom + (rest.map fun v => v.category).sum ≤ W) (hd : decode c.code g.pc = .ok (.invokevirtual index, 3)) :
    ∃ T' v L, Stand p l e R (s.setVm T'.vm) m args below meth c T' (locs ++ L) (cells + rm.cells) (slots + rm.slots) ∧ Q v T'.heap L ∧ s.Since T'.vm T'.heap.size ∧ h.size ≤ T'.heap.size ∧ Z.Warmed39 T'.vm ∧ T'.vm.findClass own = some m.cls ∧ CHr Z EL vm0 h T'.vm T'.heap ∧ ∀ t, Steps p.tables e below (T'.setTop { g with pc := g.pc + 3, stack := v.toList ++ rest }) t → Steps p.tables e below (T.setTop g) t := by
  subst has
  subst eT
  obtain ⟨cq, kq, qa, qb, qc⟩ := isOf (s := s.setVm vm0) hZ rfl E
  obtain ⟨v, _, ⟨T1, L1, k1, n1⟩, -, X1, S1, g1, ⟨Lc, hQ, l1, y1, z1, c1⟩, st⟩ := X.virtualBackS hx (y := y) (z := z) hown (mvT (s := s.setVm vm0) hZ w1) (mvT (s := s.setVm vm0) hZ w2) nf (mvT (s := s.setVm vm0) hZ w3) (mvT (s := s.setVm vm0) hZ w4) hy (backOfSH (W := W) (hM []) hZ w5 w6 hf hl hEL H) qa qc hg hsize (Steps.refl _) hlen hstack hW hd (fun _ _ => ⟨rfl, rfl, hc, hs⟩)
  dsimp only [Pt.U, Pt.locs, Pt.cells, Pt.slots] at X1 l1 y1 z1 st hQ S1 g1 c1
  subst l1 y1 z1
  exact ⟨T1, v, Lc, X1, hQ, foldS hS hk S1 g1, g1, State.Warmed39.trans (t := s.setVm vm0) hZ S1.1, by rw [S1.1.alike.findClass]; exact hown, c1, fun t k => st.trans k⟩
open Jvm.Free.SB Jvm.Free.SBG in
theorem own_safeNull {x : Addr} {vm : Vm} (hal : Z.vm.Alike vm) (E : Exa Z h x "java/lang/String") (F : Fld Z h x "java/lang/String" "value" "[B" .null) : Safe Z EL vm h x := fun B => by
  obtain ⟨cell, k, e1, e2, e3, -, -⟩ := E
  obtain ⟨p, -, u, a, -, q, -, G, rfl | rfl⟩ := B
  · have hh := (show h[q.sa]? = some q.sC from G.ha)
    obtain ⟨cell', cf, k', i, f, f1, f2, f3, f4, f5, f6, f7⟩ := F
    cases hh.symm.trans f1
    obtain ⟨cS, ⟨⟨s1, s2, s3, ⟨cv, kv, iv, s4, s4'⟩, s5, s6, s7, s8, r⟩, -⟩, -⟩ := G
    obtain ⟨kv', z4⟩ := ff_back (U := Wst Z vm h) hal s4
    cases f2.symm.trans z4
    rw [s8] at f7; cases f7
  · cases (show h[q.sd]? = some q.SA from G.hd).symm.trans e1
    obtain ⟨cS, -, -, fB, -⟩ := G
    have fB : vm.findClass "[B" = some q.SA.cls := fB
    rw [hal.findClass] at fB
    obtain ⟨k1, q1, q2⟩ := Vm.findClass_spec fB
    obtain ⟨k2, q3, q4⟩ := Vm.findClass_spec e2
    cases q1.symm.trans q3
    exact absurd (q2.symm.trans q4) (by decide)
end OwnKitS
theorem own_c255 (x : Int32) : nar .char (x &&& 255).toUInt32.toUInt16.toUInt32.toInt32 = x &&& 255 := by
  rw [i2c_mask]
  exact i2c_mask x
theorem own_f255 (x : Int32) : fits .char (.int (x &&& 255)) = true := by
  rw [← own_c255]
  exact fits_nar_char _
theorem own_b8 (x : Int32) : nar .byte x.toInt8.toInt32 = x.toInt8.toInt32 := by
  show x.toInt8.toInt32.toInt8.toInt32 = _
  rw [Int8.toInt8_toInt32]
theorem own_le255 (x : Int32) : ¬ ((255 : Int32) < (x &&& (255 : Int32))) := by
  have h1 := c_mask x 255 8 (by decide) (by decide)
  rw [Int32.lt_iff_toInt_lt, h1]
  show ¬ (255 : Int) < _
  omega
theorem own_cache {args : Array Value} {s : State} {C1 n1 d1 : String} {a : Addr} {cl : Cell} {ty : FieldType} {C : String} {c2 : Jvm.Cond} (ev : (Term.static C1 n1 d1).eval args s none [] s = some (.ref a)) (A : Arr s s.heap a cl ty) (hz : cl.slots.size = 256) (q : (Jvm.Cond.all (.static C1 n1 d1) (.and (.exactly (.elem (.static C1 n1 d1) (.index 0)) C) c2)).value args s none s [] = some true) :
    ∀ n, n < 256 → ∃ y, cl.slots[n]? = some (.ref y) := by
  intro n hn
  have ha := Arr.fin (U := s) (Vm.Alike.refl _) A
  have q1 := Cond.all_elim ev ha q n (by omega)
  obtain ⟨y, ey⟩ := exa_v (and_e q1).1
  have ev' : (Term.static C1 n1 d1).eval args s none [n] s = some (.ref a) := ev
  have r := (elem_in ey ev' (Term.index_eval _) A.1).2
  have e : (n.toInt32).toNatClampNeg = n := by
    have q2 := len_toInt (n := n) (by omega)
    simp only [Int32.toNatClampNeg]
    omega
  refine ⟨y, ?_⟩
  rw [← e]
  exact r
def own_Ctx (Z : State) (s_FIFO : Addr) (s_UNORDERED : Addr) (s_COMPACT_STRINGS : Int32) (s_cache : Addr) (cl_s_cache : Cell) : Prop :=
  (Sta Z Z.heap "com/example/mailroom/mailroom/core/Delivery" "FIFO" "Lcom/example/mailroom/mailroom/core/Delivery;" (.ref s_FIFO)) ∧
  (Exa Z Z.heap s_FIFO "com/example/mailroom/mailroom/core/Delivery") ∧
  (Fld Z Z.heap s_FIFO "com/example/mailroom/mailroom/core/Delivery" "perPairOrder" "Z" (.int (1 : Int32))) ∧
  (Sta Z Z.heap "com/example/mailroom/mailroom/core/Delivery" "UNORDERED" "Lcom/example/mailroom/mailroom/core/Delivery;" (.ref s_UNORDERED)) ∧
  (Exa Z Z.heap s_UNORDERED "com/example/mailroom/mailroom/core/Delivery") ∧
  (Fld Z Z.heap s_UNORDERED "java/lang/Enum" "ordinal" "I" (.int (1 : Int32))) ∧
  (Fld Z Z.heap s_FIFO "java/lang/Enum" "ordinal" "I" (.int (0 : Int32))) ∧
  (Fld Z Z.heap s_UNORDERED "com/example/mailroom/mailroom/core/Delivery" "perPairOrder" "Z" (.int (0 : Int32))) ∧
  (Sta Z Z.heap "java/lang/String" "COMPACT_STRINGS" "Z" (.int s_COMPACT_STRINGS)) ∧
  (¬ (s_COMPACT_STRINGS = (0 : Int32))) ∧
  (Sta Z Z.heap "java/lang/Integer$IntegerCache" "high" "I" (.int (127 : Int32))) ∧
  (Sta Z Z.heap "java/lang/Integer$IntegerCache" "cache" "[Ljava/lang/Integer;" (.ref s_cache)) ∧
  (Exa Z Z.heap s_cache "[Ljava/lang/Integer;") ∧
  (Arr Z Z.heap s_cache cl_s_cache (.object "java/lang/Integer")) ∧
  (cl_s_cache.slots.size = 256) ∧
  (∀ n, n < 256 → ∃ y, cl_s_cache.slots[n]? = some (.ref y)) ∧
  (¬ (s_UNORDERED = s_FIFO))
def own_EL : List (String × Nat) := []
theorem own_EW {Z : State} {a0 : Array Value} (hw : ∀ d ∈ tables_1, d.before a0 Z = true) : EW Z a0 own_EL := EW.nil
theorem own_wS {Z : State} {a0 : Array Value} (hw : ∀ d ∈ tables_1, d.before a0 Z = true) : ∀ a ∈ Bundle.stringAtoms, a.before a0 Z = true := by
  intro a ha
  simp only [Bundle.stringAtoms, List.mem_cons, List.not_mem_nil, or_false] at ha
  rcases ha with rfl | rfl | rfl | rfl | rfl | rfl | rfl
  · exact (hw _ (List.mem_of_getElem? (i := 9) rfl))
  · exact (hw _ (List.mem_of_getElem? (i := 8) rfl))
  · exact (hw _ (List.mem_of_getElem? (i := 25) rfl))
  · exact (hw _ (List.mem_of_getElem? (i := 35) rfl))
  · exact (hw _ (List.mem_of_getElem? (i := 33) rfl))
  · exact (hw _ (List.mem_of_getElem? (i := 53) rfl))
  · exact (hw _ (List.mem_of_getElem? (i := 54) rfl))
theorem d_jdk_52_method_21_code_0 : decode jdk_52_method_21_code 0 = .ok (.iconst 0, 1) := by decide +kernel
theorem d_jdk_52_method_21_code_1 : decode jdk_52_method_21_code 1 = .ok (.istore 5, 2) := by decide +kernel
theorem d_jdk_52_method_21_code_3 : decode jdk_52_method_21_code 3 = .ok (.iload 5, 2) := by decide +kernel
theorem d_jdk_52_method_21_code_5 : decode jdk_52_method_21_code 5 = .ok (.iload 4, 2) := by decide +kernel
theorem d_jdk_52_method_21_code_7 : decode jdk_52_method_21_code 7 = .ok (.if_icmp .ge 37, 3) := by decide +kernel
theorem d_jdk_52_method_21_code_10 : decode jdk_52_method_21_code 10 = .ok (.aload_n 0, 1) := by decide +kernel
theorem d_jdk_52_method_21_code_11 : decode jdk_52_method_21_code 11 = .ok (.iload_n 1, 1) := by decide +kernel
theorem d_jdk_52_method_21_code_12 : decode jdk_52_method_21_code 12 = .ok (.caload, 1) := by decide +kernel
theorem d_jdk_52_method_21_code_13 : decode jdk_52_method_21_code 13 = .ok (.istore 6, 2) := by decide +kernel
theorem d_jdk_52_method_21_code_15 : decode jdk_52_method_21_code 15 = .ok (.iload 6, 2) := by decide +kernel
theorem d_jdk_52_method_21_code_17 : decode jdk_52_method_21_code 17 = .ok (.sipush 255, 3) := by decide +kernel
theorem d_jdk_52_method_21_code_20 : decode jdk_52_method_21_code 20 = .ok (.if_icmp .le 6, 3) := by decide +kernel
theorem d_jdk_52_method_21_code_26 : decode jdk_52_method_21_code 26 = .ok (.aload_n 2, 1) := by decide +kernel
theorem d_jdk_52_method_21_code_27 : decode jdk_52_method_21_code 27 = .ok (.iload_n 3, 1) := by decide +kernel
theorem d_jdk_52_method_21_code_28 : decode jdk_52_method_21_code 28 = .ok (.iload 6, 2) := by decide +kernel
theorem d_jdk_52_method_21_code_30 : decode jdk_52_method_21_code 30 = .ok (.i2b, 1) := by decide +kernel
theorem d_jdk_52_method_21_code_31 : decode jdk_52_method_21_code 31 = .ok (.bastore, 1) := by decide +kernel
theorem d_jdk_52_method_21_code_32 : decode jdk_52_method_21_code 32 = .ok (.iinc 1 1, 3) := by decide +kernel
theorem d_jdk_52_method_21_code_35 : decode jdk_52_method_21_code 35 = .ok (.iinc 3 1, 3) := by decide +kernel
theorem d_jdk_52_method_21_code_38 : decode jdk_52_method_21_code 38 = .ok (.iinc 5 1, 3) := by decide +kernel
theorem d_jdk_52_method_21_code_41 : decode jdk_52_method_21_code 41 = .ok (.goto (-38), 3) := by decide +kernel
theorem d_jdk_52_method_21_code_44 : decode jdk_52_method_21_code 44 = .ok (.iload 4, 2) := by decide +kernel
theorem d_jdk_52_method_21_code_46 : decode jdk_52_method_21_code 46 = .ok (.ireturn, 1) := by decide +kernel
theorem ef_rm_comp5_1 (m : MethodId) (sa : Addr) (da : Addr) : entryFrame m #[(.ref sa), (.int (0 : Int32)), (.ref da), (.int (0 : Int32)), (.int (1 : Int32))] 7 = mkF m 0 #[.val (.ref sa), .val (.int (0 : Int32)), .val (.ref da), .val (.int (0 : Int32)), .val (.int (1 : Int32)), .unset, .unset] [] := by first | (simp [entryFrame, mkF, argsToLocals, Value.category]; done) | rfl
theorem pn_java_lang_StringUTF16_compress___CI_BII_I : plainFor (⟨"java/lang/StringUTF16", "compress", "([CI[BII)I"⟩ : MethodName) = true := by first | exact plainFor_of_name (by first | (simp [plainName, overriddenIn]; done) | decide +kernel) | decide +kernel
set_option maxRecDepth 65536 in
set_option maxHeartbeats 40000000 in
theorem rm_comp5_1 {l : Launch} {Z : State} {a0 : Array Value} {s_FIFO : Addr} {s_UNORDERED : Addr} {s_COMPACT_STRINGS : Int32} {s_cache : Addr} {cl_s_cache : Cell} (hw : ∀ d ∈ tables_1, d.before a0 Z = true) (G : own_Ctx Z s_FIFO s_UNORDERED s_COMPACT_STRINGS s_cache cl_s_cache) (sa : Addr) (da : Addr) (ks : ClassId) (x0 : Int32) (kd : ClassId) (h0 : Heap) (O0 : Ext Z.heap h0) (prem0 : ¬ ((255 : Int32) < x0)) (prem1 : Arv Z h0 sa ks .char (1 : Int32) [(.int x0)] (.int (0 : Int32))) (prem2 : Arv Z h0 da kd .byte (1 : Int32) [(.int (0 : Int32))] (.int (0 : Int32))) (prem3 : Z.heap.size ≤ da) (prem4 : sa ≠ da) :
    Ok l Z (⟨"java/lang/StringUTF16", "compress", "([CI[BII)I"⟩ : MethodName) jdk_52_method_21_code 7 (some .int) ({ frames := 0, cells := 0, slots := 0, locals := 0 } : Room) #[(.ref sa), (.int (0 : Int32)), (.ref da), (.int (0 : Int32)), (.int (1 : Int32))] h0
      (fun v h L => v = some (.int (1 : Int32)) ∧ (Fr Z.heap.size L) ∧ (Keep h0 h [da]) ∧ (Arv Z h da kd .byte (1 : Int32) [(.int (x0.toInt8.toInt32))] (.int (0 : Int32)))) := by
  refine Ok.mk pn_java_lang_StringUTF16_compress___CI_BII_I ?_
  intro p e s m below meth c T0 hx hby hml hown hnm hret hlk hZ e0 X0
  refine Go.cast (ef_rm_comp5_1 m sa da) ?_
  obtain ⟨S_FIFO, E_s_FIFO, F_s_FIFO_perPairOrder, S_UNORDERED, E_s_UNORDERED, F_s_UNORDERED_ordinal, F_s_FIFO_ordinal, F_s_UNORDERED_perPairOrder, S_COMPACT_STRINGS, hne_s_COMPACT_STRINGS_0, S_high, S_cache, E_s_cache, A_cache, Z_cache, H_cache, ne_UF⟩ := id G
  have N0 := Fr.nil Z.heap.size
  have K0 : Keep h0 h0 [da] := Keep.refl _ _
  refine Go.of (T' := T0) (f' := (mkF m 1 #[.val (.ref sa), .val (.int (0 : Int32)), .val (.ref da), .val (.int (0 : Int32)), .val (.int (1 : Int32)), .unset, .unset] [(.int (0 : Int32))])) (fun _ k => XS.iconst X0.here hx rfl (hb hby d_jdk_52_method_21_code_0) k) ?_
  refine Go.of (T' := T0) (f' := (mkF m 3 #[.val (.ref sa), .val (.int (0 : Int32)), .val (.ref da), .val (.int (0 : Int32)), .val (.int (1 : Int32)), .val (.int (0 : Int32)), .unset] [])) (fun _ k => XS.istore X0.here hx rfl (hb hby d_jdk_52_method_21_code_1) rfl (l' := #[.val (.ref sa), .val (.int (0 : Int32)), .val (.ref da), .val (.int (0 : Int32)), .val (.int (1 : Int32)), .val (.int (0 : Int32)), .unset]) rfl k) ?_
  refine Go.of (T' := T0) (f' := (mkF m 5 #[.val (.ref sa), .val (.int (0 : Int32)), .val (.ref da), .val (.int (0 : Int32)), .val (.int (1 : Int32)), .val (.int (0 : Int32)), .unset] [(.int (0 : Int32))])) (fun _ k => XS.iload X0.here hx rfl (hb hby d_jdk_52_method_21_code_3) rfl k) ?_
  refine Go.of (T' := T0) (f' := (mkF m 7 #[.val (.ref sa), .val (.int (0 : Int32)), .val (.ref da), .val (.int (0 : Int32)), .val (.int (1 : Int32)), .val (.int (0 : Int32)), .unset] [(.int (1 : Int32)), (.int (0 : Int32))])) (fun _ k => XS.iload X0.here hx rfl (hb hby d_jdk_52_method_21_code_5) rfl k) ?_
  refine Go.of (T' := T0) (f' := (mkF m 10 #[.val (.ref sa), .val (.int (0 : Int32)), .val (.ref da), .val (.int (0 : Int32)), .val (.int (1 : Int32)), .val (.int (0 : Int32)), .unset] [])) (fun _ k => XS.icmpNo X0.here hx rfl (hb hby d_jdk_52_method_21_code_7) rfl (tlt (by decide : (0 : Int32) < (1 : Int32))).2.1 k) ?_
  refine Go.of (T' := T0) (f' := (mkF m 11 #[.val (.ref sa), .val (.int (0 : Int32)), .val (.ref da), .val (.int (0 : Int32)), .val (.int (1 : Int32)), .val (.int (0 : Int32)), .unset] [(.ref sa)])) (fun _ k => XS.aloadN X0.here hx rfl (hb hby d_jdk_52_method_21_code_10) rfl rfl k) ?_
  refine Go.of (T' := T0) (f' := (mkF m 12 #[.val (.ref sa), .val (.int (0 : Int32)), .val (.ref da), .val (.int (0 : Int32)), .val (.int (1 : Int32)), .val (.int (0 : Int32)), .unset] [(.int (0 : Int32)), (.ref sa)])) (fun _ k => XS.iloadN X0.here hx rfl (hb hby d_jdk_52_method_21_code_11) rfl k) ?_
  obtain ⟨cl2, Ar2, qk2, S2, Ng2, H2, G2⟩ := id prem1
  have hin2 := inb_of (j := (0 : Int32)) S2 ⟨by decide, by decide⟩
  refine Go.of (T' := T0) (f' := (mkF m 13 #[.val (.ref sa), .val (.int (0 : Int32)), .val (.ref da), .val (.int (0 : Int32)), .val (.int (1 : Int32)), .val (.int (0 : Int32)), .unset] [(.int x0)])) (fun _ k => X0.caload hx (j := (0 : Int32)) (v := (.int x0)) (by rw [e0]; exact Ar2.1) (State.isArrayOf_alike hZ.alike Ar2.2.1) Ar2.2.2 hin2 (H2.at hin2 rfl) (g := (mkF m 12 #[.val (.ref sa), .val (.int (0 : Int32)), .val (.ref da), .val (.int (0 : Int32)), .val (.int (1 : Int32)), .val (.int (0 : Int32)), .unset] [(.int (0 : Int32)), (.ref sa)])) rfl rfl (hb hby d_jdk_52_method_21_code_12) _ k) ?_
  refine Go.of (T' := T0) (f' := (mkF m 15 #[.val (.ref sa), .val (.int (0 : Int32)), .val (.ref da), .val (.int (0 : Int32)), .val (.int (1 : Int32)), .val (.int (0 : Int32)), .val (.int x0)] [])) (fun _ k => XS.istore X0.here hx rfl (hb hby d_jdk_52_method_21_code_13) rfl (l' := #[.val (.ref sa), .val (.int (0 : Int32)), .val (.ref da), .val (.int (0 : Int32)), .val (.int (1 : Int32)), .val (.int (0 : Int32)), .val (.int x0)]) rfl k) ?_
  refine Go.of (T' := T0) (f' := (mkF m 17 #[.val (.ref sa), .val (.int (0 : Int32)), .val (.ref da), .val (.int (0 : Int32)), .val (.int (1 : Int32)), .val (.int (0 : Int32)), .val (.int x0)] [(.int x0)])) (fun _ k => XS.iload X0.here hx rfl (hb hby d_jdk_52_method_21_code_15) rfl k) ?_
  refine Go.of (T' := T0) (f' := (mkF m 20 #[.val (.ref sa), .val (.int (0 : Int32)), .val (.ref da), .val (.int (0 : Int32)), .val (.int (1 : Int32)), .val (.int (0 : Int32)), .val (.int x0)] [(.int (255 : Int32)), (.int x0)])) (fun _ k => XS.sipush X0.here hx rfl (hb hby d_jdk_52_method_21_code_17) k) ?_
  have hc3 : ¬ ((255 : Int32) < x0) := prem0
  refine Go.of (T' := T0) (f' := (mkF m 26 #[.val (.ref sa), .val (.int (0 : Int32)), .val (.ref da), .val (.int (0 : Int32)), .val (.int (1 : Int32)), .val (.int (0 : Int32)), .val (.int x0)] [])) (fun _ k => XS.icmpYes X0.here hx rfl (pc0 := 20) (pc' := 26) rfl (hb hby d_jdk_52_method_21_code_20) rfl (flt hc3).2.2.2 (by decide) (by decide) k) ?_
  refine Go.of (T' := T0) (f' := (mkF m 27 #[.val (.ref sa), .val (.int (0 : Int32)), .val (.ref da), .val (.int (0 : Int32)), .val (.int (1 : Int32)), .val (.int (0 : Int32)), .val (.int x0)] [(.ref da)])) (fun _ k => XS.aloadN X0.here hx rfl (hb hby d_jdk_52_method_21_code_26) rfl rfl k) ?_
  refine Go.of (T' := T0) (f' := (mkF m 28 #[.val (.ref sa), .val (.int (0 : Int32)), .val (.ref da), .val (.int (0 : Int32)), .val (.int (1 : Int32)), .val (.int (0 : Int32)), .val (.int x0)] [(.int (0 : Int32)), (.ref da)])) (fun _ k => XS.iloadN X0.here hx rfl (hb hby d_jdk_52_method_21_code_27) rfl k) ?_
  refine Go.of (T' := T0) (f' := (mkF m 30 #[.val (.ref sa), .val (.int (0 : Int32)), .val (.ref da), .val (.int (0 : Int32)), .val (.int (1 : Int32)), .val (.int (0 : Int32)), .val (.int x0)] [(.int x0), (.int (0 : Int32)), (.ref da)])) (fun _ k => XS.iload X0.here hx rfl (hb hby d_jdk_52_method_21_code_28) rfl k) ?_
  refine Go.of (T' := T0) (f' := (mkF m 31 #[.val (.ref sa), .val (.int (0 : Int32)), .val (.ref da), .val (.int (0 : Int32)), .val (.int (1 : Int32)), .val (.int (0 : Int32)), .val (.int x0)] [(.int (x0.toInt8.toInt32)), (.int (0 : Int32)), (.ref da)])) (fun _ k => XS.i2b X0.here hx rfl (hb hby d_jdk_52_method_21_code_30) rfl k) ?_
  obtain ⟨cl4, Ar4, qk4, S4, Ng4, H4, G4⟩ := id prem2
  obtain ⟨T4, h4, X4, e4, W4, st4⟩ := stB X0 hx hZ e0 Ar4 (j := (0 : Int32)) (inb_of S4 ⟨by decide, by decide⟩) (g := (mkF m 31 #[.val (.ref sa), .val (.int (0 : Int32)), .val (.ref da), .val (.int (0 : Int32)), .val (.int (1 : Int32)), .val (.int (0 : Int32)), .val (.int x0)] [(.int (x0.toInt8.toInt32)), (.int (0 : Int32)), (.ref da)])) rfl rfl (hb hby d_jdk_52_method_21_code_31)
  have W4 : Wr h0 h4 da ((0 : Int32)).toNatClampNeg (.int (x0.toInt8.toInt32)) := Eq.mp (congrArg (fun z => Wr h0 h4 da ((0 : Int32)).toNatClampNeg (Value.int z)) (own_b8 x0)) W4
  have O5 := Old0.wr O0 W4 prem3
  have K5 := Keep.wr K0 W4 (Or.inl (List.mem_of_getElem? (i := 0) rfl))
  have f4 : Arv Z h4 da kd .byte (1 : Int32) [(.int (x0.toInt8.toInt32))] (.int (0 : Int32)) := Arv.set Ar4 qk4 S4 Ng4 H4 G4 (v := (.int (x0.toInt8.toInt32))) (fits_nar_byte _) W4 0 rfl (Nat.le_of_ble_eq_true rfl)
  have N4 := Fr.snoc X4 N0 prem3
  refine Go.of (T' := T4) (f' := (mkF m 32 #[.val (.ref sa), .val (.int (0 : Int32)), .val (.ref da), .val (.int (0 : Int32)), .val (.int (1 : Int32)), .val (.int (0 : Int32)), .val (.int x0)] [])) (fun _ k => st4 _ k) ?_
  refine Go.of (T' := T4) (f' := (mkF m 35 #[.val (.ref sa), .val (.int (1 : Int32)), .val (.ref da), .val (.int (0 : Int32)), .val (.int (1 : Int32)), .val (.int (0 : Int32)), .val (.int x0)] [])) (fun _ k => XS.iinc X4.here hx rfl (hb hby d_jdk_52_method_21_code_32) rfl (l' := #[.val (.ref sa), .val (.int (1 : Int32)), .val (.ref da), .val (.int (0 : Int32)), .val (.int (1 : Int32)), .val (.int (0 : Int32)), .val (.int x0)]) rfl k) ?_
  refine Go.of (T' := T4) (f' := (mkF m 38 #[.val (.ref sa), .val (.int (1 : Int32)), .val (.ref da), .val (.int (1 : Int32)), .val (.int (1 : Int32)), .val (.int (0 : Int32)), .val (.int x0)] [])) (fun _ k => XS.iinc X4.here hx rfl (hb hby d_jdk_52_method_21_code_35) rfl (l' := #[.val (.ref sa), .val (.int (1 : Int32)), .val (.ref da), .val (.int (1 : Int32)), .val (.int (1 : Int32)), .val (.int (0 : Int32)), .val (.int x0)]) rfl k) ?_
  refine Go.of (T' := T4) (f' := (mkF m 41 #[.val (.ref sa), .val (.int (1 : Int32)), .val (.ref da), .val (.int (1 : Int32)), .val (.int (1 : Int32)), .val (.int (1 : Int32)), .val (.int x0)] [])) (fun _ k => XS.iinc X4.here hx rfl (hb hby d_jdk_52_method_21_code_38) rfl (l' := #[.val (.ref sa), .val (.int (1 : Int32)), .val (.ref da), .val (.int (1 : Int32)), .val (.int (1 : Int32)), .val (.int (1 : Int32)), .val (.int x0)]) rfl k) ?_
  refine Go.of (T' := T4) (f' := (mkF m 3 #[.val (.ref sa), .val (.int (1 : Int32)), .val (.ref da), .val (.int (1 : Int32)), .val (.int (1 : Int32)), .val (.int (1 : Int32)), .val (.int x0)] [])) (fun _ k => XS.goto X4.here hx rfl (pc0 := 41) (pc' := 3) rfl (hb hby d_jdk_52_method_21_code_41) (by decide) (by decide) k) ?_
  refine Go.of (T' := T4) (f' := (mkF m 5 #[.val (.ref sa), .val (.int (1 : Int32)), .val (.ref da), .val (.int (1 : Int32)), .val (.int (1 : Int32)), .val (.int (1 : Int32)), .val (.int x0)] [(.int (1 : Int32))])) (fun _ k => XS.iload X4.here hx rfl (hb hby d_jdk_52_method_21_code_3) rfl k) ?_
  refine Go.of (T' := T4) (f' := (mkF m 7 #[.val (.ref sa), .val (.int (1 : Int32)), .val (.ref da), .val (.int (1 : Int32)), .val (.int (1 : Int32)), .val (.int (1 : Int32)), .val (.int x0)] [(.int (1 : Int32)), (.int (1 : Int32))])) (fun _ k => XS.iload X4.here hx rfl (hb hby d_jdk_52_method_21_code_5) rfl k) ?_
  refine Go.of (T' := T4) (f' := (mkF m 44 #[.val (.ref sa), .val (.int (1 : Int32)), .val (.ref da), .val (.int (1 : Int32)), .val (.int (1 : Int32)), .val (.int (1 : Int32)), .val (.int x0)] [])) (fun _ k => XS.icmpYes X4.here hx rfl (pc0 := 7) (pc' := 44) rfl (hb hby d_jdk_52_method_21_code_7) rfl (flt (by decide : ¬ ((1 : Int32) < (1 : Int32)))).2.1 (by decide) (by decide) k) ?_
  refine Go.of (T' := T4) (f' := (mkF m 46 #[.val (.ref sa), .val (.int (1 : Int32)), .val (.ref da), .val (.int (1 : Int32)), .val (.int (1 : Int32)), .val (.int (1 : Int32)), .val (.int x0)] [(.int (1 : Int32))])) (fun _ k => XS.iload X4.here hx rfl (hb hby d_jdk_52_method_21_code_44) rfl k) ?_
  exact Go.retI X4 hx hlk hret (hb hby d_jdk_52_method_21_code_46) (by decide) (by decide) (by rw [e4]; exact ⟨rfl, N4, K5, f4⟩)
theorem d_jdk_52_method_16_code_0 : decode jdk_52_method_16_code 0 = .ok (.iload_n 2, 1) := by decide +kernel
theorem d_jdk_52_method_16_code_1 : decode jdk_52_method_16_code 1 = .ok (.newarray .byte, 2) := by decide +kernel
theorem d_jdk_52_method_16_code_3 : decode jdk_52_method_16_code 3 = .ok (.astore_n 3, 1) := by decide +kernel
theorem d_jdk_52_method_16_code_4 : decode jdk_52_method_16_code 4 = .ok (.aload_n 0, 1) := by decide +kernel
theorem d_jdk_52_method_16_code_5 : decode jdk_52_method_16_code 5 = .ok (.iload_n 1, 1) := by decide +kernel
theorem d_jdk_52_method_16_code_6 : decode jdk_52_method_16_code 6 = .ok (.aload_n 3, 1) := by decide +kernel
theorem d_jdk_52_method_16_code_7 : decode jdk_52_method_16_code 7 = .ok (.iconst 0, 1) := by decide +kernel
theorem d_jdk_52_method_16_code_8 : decode jdk_52_method_16_code 8 = .ok (.iload_n 2, 1) := by decide +kernel
theorem d_jdk_52_method_16_code_9 : decode jdk_52_method_16_code 9 = .ok (.invokestatic 115, 3) := by decide +kernel
theorem pd___CI_BII_I : parseMethodDescriptor "([CI[BII)I" = some ⟨[(.array .char), .int, (.array .byte), .int, .int], some .int⟩ := by decide +kernel
theorem d_jdk_52_method_16_code_12 : decode jdk_52_method_16_code 12 = .ok (.istore 4, 2) := by decide +kernel
theorem d_jdk_52_method_16_code_14 : decode jdk_52_method_16_code 14 = .ok (.iload 4, 2) := by decide +kernel
theorem d_jdk_52_method_16_code_16 : decode jdk_52_method_16_code 16 = .ok (.iload_n 2, 1) := by decide +kernel
theorem d_jdk_52_method_16_code_17 : decode jdk_52_method_16_code 17 = .ok (.if_icmp .eq 40, 3) := by decide +kernel
theorem d_jdk_52_method_16_code_57 : decode jdk_52_method_16_code 57 = .ok (.aload_n 3, 1) := by decide +kernel
theorem d_jdk_52_method_16_code_58 : decode jdk_52_method_16_code 58 = .ok (.areturn, 1) := by decide +kernel
theorem ef_rm_comp3_1 (m : MethodId) (sa : Addr) : entryFrame m #[(.ref sa), (.int (0 : Int32)), (.int (1 : Int32))] 6 = mkF m 0 #[.val (.ref sa), .val (.int (0 : Int32)), .val (.int (1 : Int32)), .unset, .unset, .unset] [] := by first | (simp [entryFrame, mkF, argsToLocals, Value.category]; done) | rfl
theorem pn_java_lang_StringUTF16_compress___CII__B : plainFor (⟨"java/lang/StringUTF16", "compress", "([CII)[B"⟩ : MethodName) = true := by first | exact plainFor_of_name (by first | (simp [plainName, overriddenIn]; done) | decide +kernel) | decide +kernel
set_option maxRecDepth 65536 in
set_option maxHeartbeats 40000000 in
theorem rm_comp3_1 {l : Launch} {Z : State} {a0 : Array Value} {s_FIFO : Addr} {s_UNORDERED : Addr} {s_COMPACT_STRINGS : Int32} {s_cache : Addr} {cl_s_cache : Cell} (hw : ∀ d ∈ tables_1, d.before a0 Z = true) (G : own_Ctx Z s_FIFO s_UNORDERED s_COMPACT_STRINGS s_cache cl_s_cache) (sa : Addr) (ks : ClassId) (x0 : Int32) (h0 : Heap) (O0 : Ext Z.heap h0) (prem0 : ¬ ((255 : Int32) < x0)) (prem1 : Arv Z h0 sa ks .char (1 : Int32) [(.int x0)] (.int (0 : Int32))) :
    Ok l Z (⟨"java/lang/StringUTF16", "compress", "([CII)[B"⟩ : MethodName) jdk_52_method_16_code 6 (some (.array .byte)) ({ frames := 1, cells := 1, slots := 1, locals := 18 } : Room) #[(.ref sa), (.int (0 : Int32)), (.int (1 : Int32))] h0
      (fun v h L => ∃ da : Addr, ∃ kd : ClassId, v = some (.ref da) ∧ (Fr Z.heap.size L) ∧ (Keep h0 h []) ∧ (h0.size ≤ da) ∧ (Arv Z h da kd .byte (1 : Int32) [(.int (x0.toInt8.toInt32))] (.int (0 : Int32))) ∧ (Exa Z h da "[B")) := by
  refine Ok.mk pn_java_lang_StringUTF16_compress___CII__B ?_
  intro p e s m below meth c T0 hx hby hml hown hnm hret hlk hZ e0 X0
  refine Go.cast (ef_rm_comp3_1 m sa) ?_
  obtain ⟨S_FIFO, E_s_FIFO, F_s_FIFO_perPairOrder, S_UNORDERED, E_s_UNORDERED, F_s_UNORDERED_ordinal, F_s_FIFO_ordinal, F_s_UNORDERED_perPairOrder, S_COMPACT_STRINGS, hne_s_COMPACT_STRINGS_0, S_high, S_cache, E_s_cache, A_cache, Z_cache, H_cache, ne_UF⟩ := id G
  have N0 := Fr.nil Z.heap.size
  have K0 : Keep h0 h0 [] := Keep.refl _ _
  refine Go.of (T' := T0) (f' := (mkF m 1 #[.val (.ref sa), .val (.int (0 : Int32)), .val (.int (1 : Int32)), .unset, .unset, .unset] [(.int (1 : Int32))])) (fun _ k => XS.iloadN X0.here hx rfl (hb hby d_jdk_52_method_16_code_0) rfl k) ?_
  obtain ⟨T7, h7, k7, b7, q7, X7, e7, E7, V7, A7, st7⟩ := newAr X0 hx hZ (hw _ (List.mem_of_getElem? (i := 25) rfl)) e0 (g := (mkF m 1 #[.val (.ref sa), .val (.int (0 : Int32)), .val (.int (1 : Int32)), .unset, .unset, .unset] [(.int (1 : Int32))])) rfl (hb hby d_jdk_52_method_16_code_1) rfl (by decide) (cap := 1) (by decide) (by decide) (by decide) (by decide) (ad := "[B") (by decide)
  have O8 := Old0.ext O0 E7
  have K8 := Keep.ext K0 E7
  have g_b7 : Z.heap.size ≤ b7 := q7 ▸ O0.1
  have z_b7 : h0.size ≤ b7 := q7 ▸ K0.1
  have ne_sa_b7 : sa ≠ b7 := q7 ▸ Nat.ne_of_lt prem1.lt
  have f9 : Arv Z h7 b7 k7 .byte (1 : Int32) [(.int (0 : Int32))] (.int (0 : Int32)) := Arv.pad V7 (pad_rep [] (.int (0 : Int32)) 1)
  refine Go.of (T' := T7) (f' := (mkF m 3 #[.val (.ref sa), .val (.int (0 : Int32)), .val (.int (1 : Int32)), .unset, .unset, .unset] [(.ref b7)])) (fun _ k => st7 _ k) ?_
  refine Go.of (T' := T7) (f' := (mkF m 4 #[.val (.ref sa), .val (.int (0 : Int32)), .val (.int (1 : Int32)), .val (.ref b7), .unset, .unset] [])) (fun _ k => XS.astoreN X7.here hx rfl (hb hby d_jdk_52_method_16_code_3) rfl rfl (l' := #[.val (.ref sa), .val (.int (0 : Int32)), .val (.int (1 : Int32)), .val (.ref b7), .unset, .unset]) rfl k) ?_
  refine Go.of (T' := T7) (f' := (mkF m 5 #[.val (.ref sa), .val (.int (0 : Int32)), .val (.int (1 : Int32)), .val (.ref b7), .unset, .unset] [(.ref sa)])) (fun _ k => XS.aloadN X7.here hx rfl (hb hby d_jdk_52_method_16_code_4) rfl rfl k) ?_
  refine Go.of (T' := T7) (f' := (mkF m 6 #[.val (.ref sa), .val (.int (0 : Int32)), .val (.int (1 : Int32)), .val (.ref b7), .unset, .unset] [(.int (0 : Int32)), (.ref sa)])) (fun _ k => XS.iloadN X7.here hx rfl (hb hby d_jdk_52_method_16_code_5) rfl k) ?_
  refine Go.of (T' := T7) (f' := (mkF m 7 #[.val (.ref sa), .val (.int (0 : Int32)), .val (.int (1 : Int32)), .val (.ref b7), .unset, .unset] [(.ref b7), (.int (0 : Int32)), (.ref sa)])) (fun _ k => XS.aloadN X7.here hx rfl (hb hby d_jdk_52_method_16_code_6) rfl rfl k) ?_
  refine Go.of (T' := T7) (f' := (mkF m 8 #[.val (.ref sa), .val (.int (0 : Int32)), .val (.int (1 : Int32)), .val (.ref b7), .unset, .unset] [(.int (0 : Int32)), (.ref b7), (.int (0 : Int32)), (.ref sa)])) (fun _ k => XS.iconst X7.here hx rfl (hb hby d_jdk_52_method_16_code_7) k) ?_
  refine Go.of (T' := T7) (f' := (mkF m 9 #[.val (.ref sa), .val (.int (0 : Int32)), .val (.int (1 : Int32)), .val (.ref b7), .unset, .unset] [(.int (1 : Int32)), (.int (0 : Int32)), (.ref b7), (.int (0 : Int32)), (.ref sa)])) (fun _ k => XS.iloadN X7.here hx rfl (hb hby d_jdk_52_method_16_code_8) rfl k) ?_
  have f11 : Arv Z h7 sa ks .char (1 : Int32) [(.int x0)] (.int (0 : Int32)) := (Arv.ext prem1 E7)
  obtain ⟨T10, v10, L10, X10, q10, st10⟩ := callSt X7 hx hZ (y := (⟨"java/lang/StringUTF16", "compress", "([CI[BII)I"⟩ : MethodName)) hown (hw _ (List.mem_of_getElem? (i := 26) rfl)) (hw _ (List.mem_of_getElem? (i := 27) rfl)) (hw _ (List.mem_of_getElem? (i := 23) rfl)) (hw _ (List.mem_of_getElem? (i := 28) rfl)) (by decide) (rm_comp5_1 hw G sa b7 ks x0 k7 h7 O8 (prem0) f11 f9 g_b7 ne_sa_b7) e7 (W := 0) (by decide) (by decide) (by decide) (by decide) (g := (mkF m 9 #[.val (.ref sa), .val (.int (0 : Int32)), .val (.int (1 : Int32)), .val (.ref b7), .unset, .unset] [(.int (1 : Int32)), (.int (0 : Int32)), (.ref b7), (.int (0 : Int32)), (.ref sa)])) rfl (by rw [hml]; rfl) (argsL := [(.ref sa), (.int (0 : Int32)), (.ref b7), (.int (0 : Int32)), (.int (1 : Int32))]) (rest := []) (lenOf pd___CI_BII_I rfl) rfl rfl (by show 2 * 0 + _ ≤ _; exact Nat.le_of_eq rfl) (hb hby d_jdk_52_method_16_code_9)
  obtain ⟨rfl, N10q, K10q, p10_0⟩ := q10
  have N10 := Fr.app N0 N10q
  have O12 := Old0.keep O8 K10q (allS g_b7 all0)
  have K12 := Keep.trans K8 K10q (allS (Or.inr z_b7) all0)
  refine Go.of (T' := T10) (f' := (mkF m 12 #[.val (.ref sa), .val (.int (0 : Int32)), .val (.int (1 : Int32)), .val (.ref b7), .unset, .unset] [(.int (1 : Int32))])) (fun _ k => st10 _ k) ?_
  refine Go.of (T' := T10) (f' := (mkF m 14 #[.val (.ref sa), .val (.int (0 : Int32)), .val (.int (1 : Int32)), .val (.ref b7), .val (.int (1 : Int32)), .unset] [])) (fun _ k => XS.istore X10.here hx rfl (hb hby d_jdk_52_method_16_code_12) rfl (l' := #[.val (.ref sa), .val (.int (0 : Int32)), .val (.int (1 : Int32)), .val (.ref b7), .val (.int (1 : Int32)), .unset]) rfl k) ?_
  refine Go.of (T' := T10) (f' := (mkF m 16 #[.val (.ref sa), .val (.int (0 : Int32)), .val (.int (1 : Int32)), .val (.ref b7), .val (.int (1 : Int32)), .unset] [(.int (1 : Int32))])) (fun _ k => XS.iload X10.here hx rfl (hb hby d_jdk_52_method_16_code_14) rfl k) ?_
  refine Go.of (T' := T10) (f' := (mkF m 17 #[.val (.ref sa), .val (.int (0 : Int32)), .val (.int (1 : Int32)), .val (.ref b7), .val (.int (1 : Int32)), .unset] [(.int (1 : Int32)), (.int (1 : Int32))])) (fun _ k => XS.iloadN X10.here hx rfl (hb hby d_jdk_52_method_16_code_16) rfl k) ?_
  refine Go.of (T' := T10) (f' := (mkF m 57 #[.val (.ref sa), .val (.int (0 : Int32)), .val (.int (1 : Int32)), .val (.ref b7), .val (.int (1 : Int32)), .unset] [])) (fun _ k => XS.icmpYes X10.here hx rfl (pc0 := 17) (pc' := 57) rfl (hb hby d_jdk_52_method_16_code_17) rfl (teq (by decide : (1 : Int32) = (1 : Int32))).1 (by decide) (by decide) k) ?_
  refine Go.of (T' := T10) (f' := (mkF m 58 #[.val (.ref sa), .val (.int (0 : Int32)), .val (.int (1 : Int32)), .val (.ref b7), .val (.int (1 : Int32)), .unset] [(.ref b7)])) (fun _ k => XS.aloadN X10.here hx rfl (hb hby d_jdk_52_method_16_code_57) rfl rfl k) ?_
  have f14 : Exa Z T10.heap b7 "[B" := (Exa.keep A7 K10q)
  exact Go.retA X10 hx hlk hret rfl rfl (hb hby d_jdk_52_method_16_code_58) (by decide) (by decide) ⟨b7, k7, rfl, N10, K12, z_b7, p10_0, f14⟩
theorem d_jdk_52_method_15_code_0 : decode jdk_52_method_15_code 0 = .ok (.iload_n 1, 1) := by decide +kernel
theorem d_jdk_52_method_15_code_1 : decode jdk_52_method_15_code 1 = .ok (.aload_n 0, 1) := by decide +kernel
theorem d_jdk_52_method_15_code_2 : decode jdk_52_method_15_code 2 = .ok (.arraylength, 1) := by decide +kernel
theorem d_jdk_52_method_15_code_3 : decode jdk_52_method_15_code 3 = .ok (.isub, 1) := by decide +kernel
theorem d_jdk_52_method_15_code_4 : decode jdk_52_method_15_code 4 = .ok (.bipush 31, 2) := by decide +kernel
theorem d_jdk_52_method_15_code_6 : decode jdk_52_method_15_code 6 = .ok (.iushr, 1) := by decide +kernel
theorem d_jdk_52_method_15_code_7 : decode jdk_52_method_15_code 7 = .ok (.i2b, 1) := by decide +kernel
theorem d_jdk_52_method_15_code_8 : decode jdk_52_method_15_code 8 = .ok (.ireturn, 1) := by decide +kernel
theorem ef_rm_cfal_1 (m : MethodId) (da : Addr) : entryFrame m #[(.ref da), (.int (1 : Int32))] 2 = mkF m 0 #[.val (.ref da), .val (.int (1 : Int32))] [] := by first | (simp [entryFrame, mkF, argsToLocals, Value.category]; done) | rfl
theorem pn_java_lang_StringUTF16_coderFromArrayLen___BI_B : plainFor (⟨"java/lang/StringUTF16", "coderFromArrayLen", "([BI)B"⟩ : MethodName) = true := by first | exact plainFor_of_name (by first | (simp [plainName, overriddenIn]; done) | decide +kernel) | decide +kernel
set_option maxRecDepth 65536 in
set_option maxHeartbeats 40000000 in
theorem rm_cfal_1 {l : Launch} {Z : State} {a0 : Array Value} {s_FIFO : Addr} {s_UNORDERED : Addr} {s_COMPACT_STRINGS : Int32} {s_cache : Addr} {cl_s_cache : Cell} (hw : ∀ d ∈ tables_1, d.before a0 Z = true) (G : own_Ctx Z s_FIFO s_UNORDERED s_COMPACT_STRINGS s_cache cl_s_cache) (da : Addr) (kd : ClassId) (vs : List Value) (h0 : Heap) (O0 : Ext Z.heap h0) (prem0 : Arv Z h0 da kd .byte (1 : Int32) vs (.int (0 : Int32))) :
    Ok l Z (⟨"java/lang/StringUTF16", "coderFromArrayLen", "([BI)B"⟩ : MethodName) jdk_52_method_15_code 2 (some .byte) ({ frames := 0, cells := 0, slots := 0, locals := 0 } : Room) #[(.ref da), (.int (1 : Int32))] h0
      (fun v h L => v = some (.int (0 : Int32)) ∧ (h = h0) ∧ (L = [])) := by
  refine Ok.mk pn_java_lang_StringUTF16_coderFromArrayLen___BI_B ?_
  intro p e s m below meth c T0 hx hby hml hown hnm hret hlk hZ e0 X0
  refine Go.cast (ef_rm_cfal_1 m da) ?_
  obtain ⟨S_FIFO, E_s_FIFO, F_s_FIFO_perPairOrder, S_UNORDERED, E_s_UNORDERED, F_s_UNORDERED_ordinal, F_s_FIFO_ordinal, F_s_UNORDERED_perPairOrder, S_COMPACT_STRINGS, hne_s_COMPACT_STRINGS_0, S_high, S_cache, E_s_cache, A_cache, Z_cache, H_cache, ne_UF⟩ := id G
  have N0 := Fr.nil Z.heap.size
  have K0 : Keep h0 h0 [] := Keep.refl _ _
  refine Go.of (T' := T0) (f' := (mkF m 1 #[.val (.ref da), .val (.int (1 : Int32))] [(.int (1 : Int32))])) (fun _ k => XS.iloadN X0.here hx rfl (hb hby d_jdk_52_method_15_code_0) rfl k) ?_
  refine Go.of (T' := T0) (f' := (mkF m 2 #[.val (.ref da), .val (.int (1 : Int32))] [(.ref da), (.int (1 : Int32))])) (fun _ k => XS.aloadN X0.here hx rfl (hb hby d_jdk_52_method_15_code_1) rfl rfl k) ?_
  obtain ⟨cl15, Ar15, qk15, S15, Ng15, H15, G15⟩ := id prem0
  refine Go.of (T' := T0) (f' := (mkF m 3 #[.val (.ref da), .val (.int (1 : Int32))] [(.int (1 : Int32)), (.int (1 : Int32))])) (fun _ k => X0.arraylength hx (by rw [e0]; exact Ar15.1) (State.isArrayOf_alike hZ.alike Ar15.2.1) (g := (mkF m 2 #[.val (.ref da), .val (.int (1 : Int32))] [(.ref da), (.int (1 : Int32))])) rfl rfl (hb hby d_jdk_52_method_15_code_2) _ (by rw [len_of S15 Ng15]; exact k)) ?_
  refine Go.of (T' := T0) (f' := (mkF m 4 #[.val (.ref da), .val (.int (1 : Int32))] [(.int (0 : Int32))])) (fun _ k => XS.isub X0.here hx rfl (hb hby d_jdk_52_method_15_code_3) rfl k) ?_
  refine Go.of (T' := T0) (f' := (mkF m 6 #[.val (.ref da), .val (.int (1 : Int32))] [(.int (31 : Int32)), (.int (0 : Int32))])) (fun _ k => XS.bipush X0.here hx rfl (hb hby d_jdk_52_method_15_code_4) k) ?_
  refine Go.of (T' := T0) (f' := (mkF m 7 #[.val (.ref da), .val (.int (1 : Int32))] [(.int (0 : Int32))])) (fun _ k => XS.iushr X0.here hx rfl (hb hby d_jdk_52_method_15_code_6) rfl k) ?_
  refine Go.of (T' := T0) (f' := (mkF m 8 #[.val (.ref da), .val (.int (1 : Int32))] [(.int ((0 : Int32).toInt8.toInt32))])) (fun _ k => XS.i2b X0.here hx rfl (hb hby d_jdk_52_method_15_code_7) rfl k) ?_
  exact Go.retB X0 hx hlk hret (by simp) (hb hby d_jdk_52_method_15_code_8) (by decide) (by decide) rfl (by rw [e0]; exact ⟨rfl, rfl, by simp⟩)
theorem d_jdk_42_method_149_code_0 : decode jdk_42_method_149_code 0 = .ok (.aload_n 0, 1) := by decide +kernel
theorem d_jdk_42_method_149_code_1 : decode jdk_42_method_149_code 1 = .ok (.invokespecial 1, 3) := by decide +kernel
theorem d_jdk_42_method_149_code_4 : decode jdk_42_method_149_code 4 = .ok (.iload_n 3, 1) := by decide +kernel
theorem d_jdk_42_method_149_code_5 : decode jdk_42_method_149_code 5 = .ok (.ifCond .ne 22, 3) := by decide +kernel
theorem d_jdk_42_method_149_code_27 : decode jdk_42_method_149_code 27 = .ok (.getstatic 38, 3) := by decide +kernel
theorem d_jdk_42_method_149_code_30 : decode jdk_42_method_149_code 30 = .ok (.ifCond .eq 28, 3) := by decide +kernel
theorem d_jdk_42_method_149_code_33 : decode jdk_42_method_149_code 33 = .ok (.aload_n 1, 1) := by decide +kernel
theorem d_jdk_42_method_149_code_34 : decode jdk_42_method_149_code 34 = .ok (.iload_n 2, 1) := by decide +kernel
theorem d_jdk_42_method_149_code_35 : decode jdk_42_method_149_code 35 = .ok (.iload_n 3, 1) := by decide +kernel
theorem d_jdk_42_method_149_code_36 : decode jdk_42_method_149_code 36 = .ok (.invokestatic 177, 3) := by decide +kernel
theorem pd___CII__B : parseMethodDescriptor "([CII)[B" = some ⟨[(.array .char), .int, .int], some (.array .byte)⟩ := by decide +kernel
theorem d_jdk_42_method_149_code_39 : decode jdk_42_method_149_code 39 = .ok (.astore 5, 2) := by decide +kernel
theorem d_jdk_42_method_149_code_41 : decode jdk_42_method_149_code 41 = .ok (.aload_n 0, 1) := by decide +kernel
theorem d_jdk_42_method_149_code_42 : decode jdk_42_method_149_code 42 = .ok (.aload 5, 2) := by decide +kernel
theorem d_jdk_42_method_149_code_44 : decode jdk_42_method_149_code 44 = .ok (.iload_n 3, 1) := by decide +kernel
theorem d_jdk_42_method_149_code_45 : decode jdk_42_method_149_code 45 = .ok (.invokestatic 47, 3) := by decide +kernel
theorem pd___BI_B : parseMethodDescriptor "([BI)B" = some ⟨[(.array .byte), .int], some .byte⟩ := by decide +kernel
theorem d_jdk_42_method_149_code_48 : decode jdk_42_method_149_code 48 = .ok (.putfield 15, 3) := by decide +kernel
theorem d_jdk_42_method_149_code_51 : decode jdk_42_method_149_code 51 = .ok (.aload_n 0, 1) := by decide +kernel
theorem d_jdk_42_method_149_code_52 : decode jdk_42_method_149_code 52 = .ok (.aload 5, 2) := by decide +kernel
theorem d_jdk_42_method_149_code_54 : decode jdk_42_method_149_code 54 = .ok (.putfield 9, 3) := by decide +kernel
theorem d_jdk_42_method_149_code_57 : decode jdk_42_method_149_code 57 = .ok (.return_, 1) := by decide +kernel
theorem ef_rm_str4_1 (m : MethodId) (so : Addr) (sa : Addr) : entryFrame m #[(.ref so), (.ref sa), (.int (0 : Int32)), (.int (1 : Int32)), .null] 6 = mkF m 0 #[.val (.ref so), .val (.ref sa), .val (.int (0 : Int32)), .val (.int (1 : Int32)), .val .null, .unset] [] := by first | (simp [entryFrame, mkF, argsToLocals, Value.category]; done) | rfl
theorem pn_java_lang_String__init____CIILjava_lang_Void__V : plainFor (⟨"java/lang/String", "<init>", "([CIILjava/lang/Void;)V"⟩ : MethodName) = true := by first | exact plainFor_of_name (by first | (simp [plainName, overriddenIn]; done) | decide +kernel) | decide +kernel
set_option maxRecDepth 65536 in
set_option maxHeartbeats 40000000 in
theorem rm_str4_1 {l : Launch} {Z : State} {a0 : Array Value} {s_FIFO : Addr} {s_UNORDERED : Addr} {s_COMPACT_STRINGS : Int32} {s_cache : Addr} {cl_s_cache : Cell} (hw : ∀ d ∈ tables_1, d.before a0 Z = true) (G : own_Ctx Z s_FIFO s_UNORDERED s_COMPACT_STRINGS s_cache cl_s_cache) (so : Addr) (sa : Addr) (ks : ClassId) (x0 : Int32) (h0 : Heap) (O0 : Ext Z.heap h0) (prem0 : ¬ ((255 : Int32) < x0)) (prem1 : Exa Z h0 so "java/lang/String") (prem2 : Fld Z h0 so "java/lang/String" "value" "[B" .null) (prem3 : Fld Z h0 so "java/lang/String" "coder" "B" (.int (0 : Int32))) (prem4 : Z.heap.size ≤ so) (prem5 : Arv Z h0 sa ks .char (1 : Int32) [(.int x0)] (.int (0 : Int32))) (prem6 : so ≠ sa) :
    Ok l Z (⟨"java/lang/String", "<init>", "([CIILjava/lang/Void;)V"⟩ : MethodName) jdk_42_method_149_code 6 none ({ frames := 2, cells := 1, slots := 1, locals := 35 } : Room) #[(.ref so), (.ref sa), (.int (0 : Int32)), (.int (1 : Int32)), .null] h0
      (fun v h L => ∃ da : Addr, ∃ kd : ClassId, v = none ∧ (Fr Z.heap.size L) ∧ (Keep h0 h [so]) ∧ (h0.size ≤ da) ∧ (Fld Z h so "java/lang/String" "value" "[B" (.ref da)) ∧ (Fld Z h so "java/lang/String" "coder" "B" (.int (0 : Int32))) ∧ (Arv Z h da kd .byte (1 : Int32) [(.int (x0.toInt8.toInt32))] (.int (0 : Int32))) ∧ (Exa Z h da "[B")) := by
  refine Ok.mk pn_java_lang_String__init____CIILjava_lang_Void__V ?_
  intro p e s m below meth c T0 hx hby hml hown hnm hret hlk hZ e0 X0
  refine Go.cast (ef_rm_str4_1 m so sa) ?_
  obtain ⟨S_FIFO, E_s_FIFO, F_s_FIFO_perPairOrder, S_UNORDERED, E_s_UNORDERED, F_s_UNORDERED_ordinal, F_s_FIFO_ordinal, F_s_UNORDERED_perPairOrder, S_COMPACT_STRINGS, hne_s_COMPACT_STRINGS_0, S_high, S_cache, E_s_cache, A_cache, Z_cache, H_cache, ne_UF⟩ := id G
  have N0 := Fr.nil Z.heap.size
  have K0 : Keep h0 h0 [so] := Keep.refl _ _
  refine Go.of (T' := T0) (f' := (mkF m 1 #[.val (.ref so), .val (.ref sa), .val (.int (0 : Int32)), .val (.int (1 : Int32)), .val .null, .unset] [(.ref so)])) (fun _ k => XS.aloadN X0.here hx rfl (hb hby d_jdk_42_method_149_code_0) rfl rfl k) ?_
  obtain ⟨T16, X16, e16, st16⟩ := initO X0 hx hZ hown (hw _ (List.mem_of_getElem? (i := 17) rfl)) (hw _ (List.mem_of_getElem? (i := 18) rfl)) (hw _ (List.mem_of_getElem? (i := 19) rfl)) e0 (g := (mkF m 1 #[.val (.ref so), .val (.ref sa), .val (.int (0 : Int32)), .val (.int (1 : Int32)), .val .null, .unset] [(.ref so)])) rfl (by rw [hml]; rfl) rfl (hb hby d_jdk_42_method_149_code_1) (by decide) (W := 0) (by show 2 * 0 + _ ≤ _; exact Nat.le_of_eq rfl) (by decide)
  refine Go.of (T' := T16) (f' := (mkF m 4 #[.val (.ref so), .val (.ref sa), .val (.int (0 : Int32)), .val (.int (1 : Int32)), .val .null, .unset] [])) (fun _ k => st16 _ k) ?_
  refine Go.of (T' := T16) (f' := (mkF m 5 #[.val (.ref so), .val (.ref sa), .val (.int (0 : Int32)), .val (.int (1 : Int32)), .val .null, .unset] [(.int (1 : Int32))])) (fun _ k => XS.iloadN X16.here hx rfl (hb hby d_jdk_42_method_149_code_4) rfl k) ?_
  refine Go.of (T' := T16) (f' := (mkF m 27 #[.val (.ref so), .val (.ref sa), .val (.int (0 : Int32)), .val (.int (1 : Int32)), .val .null, .unset] [])) (fun _ k => XS.ifYes X16.here hx rfl (pc0 := 5) (pc' := 27) rfl (hb hby d_jdk_42_method_149_code_5) rfl ((if0 _ _).trans (feq (by decide : ¬ ((1 : Int32) = (0 : Int32)))).2) (by decide) (by decide) k) ?_
  obtain ⟨T18, X18, e18, st18⟩ := getS2 X16 hx hZ hown (host := "") (Or.inl (hw _ (List.mem_of_getElem? (i := 20) rfl))) Via.refl e16 (Sta.ext O0 S_COMPACT_STRINGS) (g := (mkF m 27 #[.val (.ref so), .val (.ref sa), .val (.int (0 : Int32)), .val (.int (1 : Int32)), .val .null, .unset] [])) rfl (hb hby d_jdk_42_method_149_code_27)
  refine Go.of (T' := T18) (f' := (mkF m 30 #[.val (.ref so), .val (.ref sa), .val (.int (0 : Int32)), .val (.int (1 : Int32)), .val .null, .unset] [(.int s_COMPACT_STRINGS)])) (fun _ k => st18 _ k) ?_
  have hc19 : ¬ (s_COMPACT_STRINGS = (0 : Int32)) := hne_s_COMPACT_STRINGS_0
  refine Go.of (T' := T18) (f' := (mkF m 33 #[.val (.ref so), .val (.ref sa), .val (.int (0 : Int32)), .val (.int (1 : Int32)), .val .null, .unset] [])) (fun _ k => XS.ifNo X18.here hx rfl (hb hby d_jdk_42_method_149_code_30) rfl ((if0 _ _).trans (feq hc19).1) k) ?_
  refine Go.of (T' := T18) (f' := (mkF m 34 #[.val (.ref so), .val (.ref sa), .val (.int (0 : Int32)), .val (.int (1 : Int32)), .val .null, .unset] [(.ref sa)])) (fun _ k => XS.aloadN X18.here hx rfl (hb hby d_jdk_42_method_149_code_33) rfl rfl k) ?_
  refine Go.of (T' := T18) (f' := (mkF m 35 #[.val (.ref so), .val (.ref sa), .val (.int (0 : Int32)), .val (.int (1 : Int32)), .val .null, .unset] [(.int (0 : Int32)), (.ref sa)])) (fun _ k => XS.iloadN X18.here hx rfl (hb hby d_jdk_42_method_149_code_34) rfl k) ?_
  refine Go.of (T' := T18) (f' := (mkF m 36 #[.val (.ref so), .val (.ref sa), .val (.int (0 : Int32)), .val (.int (1 : Int32)), .val .null, .unset] [(.int (1 : Int32)), (.int (0 : Int32)), (.ref sa)])) (fun _ k => XS.iloadN X18.here hx rfl (hb hby d_jdk_42_method_149_code_35) rfl k) ?_
  obtain ⟨T20, v20, L20, X20, q20, st20⟩ := callSt X18 hx hZ (y := (⟨"java/lang/StringUTF16", "compress", "([CII)[B"⟩ : MethodName)) hown (hw _ (List.mem_of_getElem? (i := 21) rfl)) (hw _ (List.mem_of_getElem? (i := 22) rfl)) (hw _ (List.mem_of_getElem? (i := 23) rfl)) (hw _ (List.mem_of_getElem? (i := 24) rfl)) (by decide) (rm_comp3_1 hw G sa ks x0 h0 O0 (prem0) prem5) e18 (W := 0) (by decide) (by decide) (by decide) (by decide) (g := (mkF m 36 #[.val (.ref so), .val (.ref sa), .val (.int (0 : Int32)), .val (.int (1 : Int32)), .val .null, .unset] [(.int (1 : Int32)), (.int (0 : Int32)), (.ref sa)])) rfl (by rw [hml]; rfl) (argsL := [(.ref sa), (.int (0 : Int32)), (.int (1 : Int32))]) (rest := []) (lenOf pd___CII__B rfl) rfl rfl (by show 2 * 0 + _ ≤ _; exact Nat.le_of_eq rfl) (hb hby d_jdk_42_method_149_code_36)
  obtain ⟨da_20, kd_20, rfl, N20q, K20q, p20_0, p20_1, p20_2⟩ := q20
  have N20 := Fr.app N0 N20q
  have O21 := Old0.keep O0 K20q all0
  have K21 := Keep.trans K0 K20q all0
  have z_da_20 : h0.size ≤ da_20 := Nat.le_trans K0.1 p20_0
  have g_da_20 : Z.heap.size ≤ da_20 := Nat.le_trans O0.1 p20_0
  have ne_so_da_20 : so ≠ da_20 := Nat.ne_of_lt (Nat.lt_of_lt_of_le prem1.lt p20_0)
  have ne_sa_da_20 : sa ≠ da_20 := Nat.ne_of_lt (Nat.lt_of_lt_of_le prem5.lt p20_0)
  refine Go.of (T' := T20) (f' := (mkF m 39 #[.val (.ref so), .val (.ref sa), .val (.int (0 : Int32)), .val (.int (1 : Int32)), .val .null, .unset] [(.ref da_20)])) (fun _ k => st20 _ k) ?_
  refine Go.of (T' := T20) (f' := (mkF m 41 #[.val (.ref so), .val (.ref sa), .val (.int (0 : Int32)), .val (.int (1 : Int32)), .val .null, .val (.ref da_20)] [])) (fun _ k => XS.astore X20.here hx rfl (hb hby d_jdk_42_method_149_code_39) rfl rfl (l' := #[.val (.ref so), .val (.ref sa), .val (.int (0 : Int32)), .val (.int (1 : Int32)), .val .null, .val (.ref da_20)]) rfl k) ?_
  refine Go.of (T' := T20) (f' := (mkF m 42 #[.val (.ref so), .val (.ref sa), .val (.int (0 : Int32)), .val (.int (1 : Int32)), .val .null, .val (.ref da_20)] [(.ref so)])) (fun _ k => XS.aloadN X20.here hx rfl (hb hby d_jdk_42_method_149_code_41) rfl rfl k) ?_
  refine Go.of (T' := T20) (f' := (mkF m 44 #[.val (.ref so), .val (.ref sa), .val (.int (0 : Int32)), .val (.int (1 : Int32)), .val .null, .val (.ref da_20)] [(.ref da_20), (.ref so)])) (fun _ k => XS.aload X20.here hx rfl (hb hby d_jdk_42_method_149_code_42) rfl rfl k) ?_
  refine Go.of (T' := T20) (f' := (mkF m 45 #[.val (.ref so), .val (.ref sa), .val (.int (0 : Int32)), .val (.int (1 : Int32)), .val .null, .val (.ref da_20)] [(.int (1 : Int32)), (.ref da_20), (.ref so)])) (fun _ k => XS.iloadN X20.here hx rfl (hb hby d_jdk_42_method_149_code_44) rfl k) ?_
  obtain ⟨T22, v22, L22, X22, q22, st22⟩ := callSt X20 hx hZ (y := (⟨"java/lang/StringUTF16", "coderFromArrayLen", "([BI)B"⟩ : MethodName)) hown (hw _ (List.mem_of_getElem? (i := 29) rfl)) (hw _ (List.mem_of_getElem? (i := 30) rfl)) (hw _ (List.mem_of_getElem? (i := 23) rfl)) (hw _ (List.mem_of_getElem? (i := 31) rfl)) (by decide) (rm_cfal_1 hw G da_20 kd_20 ([(.int (x0.toInt8.toInt32))]) T20.heap O21 p20_1) rfl (W := 1) (by decide) (by decide) (by decide) (by decide) (g := (mkF m 45 #[.val (.ref so), .val (.ref sa), .val (.int (0 : Int32)), .val (.int (1 : Int32)), .val .null, .val (.ref da_20)] [(.int (1 : Int32)), (.ref da_20), (.ref so)])) rfl (by rw [hml]; rfl) (argsL := [(.ref da_20), (.int (1 : Int32))]) (rest := [(.ref so)]) (lenOf pd___BI_B rfl) rfl rfl (by show 2 * 0 + _ ≤ _; exact Nat.le_of_eq rfl) (hb hby d_jdk_42_method_149_code_45)
  obtain ⟨rfl, e22, rfl⟩ := q22
  have N22 := Fr.app N20 (Fr.nil _)
  refine Go.of (T' := T22) (f' := (mkF m 48 #[.val (.ref so), .val (.ref sa), .val (.int (0 : Int32)), .val (.int (1 : Int32)), .val .null, .val (.ref da_20)] [(.int (0 : Int32)), (.ref so)])) (fun _ k => st22 _ k) ?_
  have f24 : Exa Z T20.heap so "java/lang/String" := (Exa.keep prem1 K20q)
  have f25 : Fld Z T20.heap so "java/lang/String" "coder" "B" (.int (0 : Int32)) := (Fld.keep prem3 K20q nin0)
  obtain ⟨T23, h23, X23, e23, W23, st23⟩ := putFN X22 hx hZ hown (hw _ (List.mem_of_getElem? (i := 32) rfl)) Via.refl e22 f25 f24 (Or.inr ⟨(hw _ (List.mem_of_getElem? (i := 33) rfl)), rfl, hnm⟩) (hw _ (List.mem_of_getElem? (i := 8) rfl)) (ty := .byte) (v' := (.int (0 : Int32))) (by decide) rfl rfl (g := (mkF m 48 #[.val (.ref so), .val (.ref sa), .val (.int (0 : Int32)), .val (.int (1 : Int32)), .val .null, .val (.ref da_20)] [(.int (0 : Int32)), (.ref so)])) rfl rfl (hb hby d_jdk_42_method_149_code_48)
  have O26 := Old0.wr O21 W23 prem4
  have K26 := Keep.wr K21 W23 (Or.inl (List.mem_of_getElem? (i := 0) rfl))
  have N23 := Fr.snoc X23 N22 prem4
  have f23 : Fld Z h23 so "java/lang/String" "coder" "B" (.int (0 : Int32)) := Fld.same W23 f25
  refine Go.of (T' := T23) (f' := (mkF m 51 #[.val (.ref so), .val (.ref sa), .val (.int (0 : Int32)), .val (.int (1 : Int32)), .val .null, .val (.ref da_20)] [])) (fun _ k => st23 _ k) ?_
  refine Go.of (T' := T23) (f' := (mkF m 52 #[.val (.ref so), .val (.ref sa), .val (.int (0 : Int32)), .val (.int (1 : Int32)), .val .null, .val (.ref da_20)] [(.ref so)])) (fun _ k => XS.aloadN X23.here hx rfl (hb hby d_jdk_42_method_149_code_51) rfl rfl k) ?_
  refine Go.of (T' := T23) (f' := (mkF m 54 #[.val (.ref so), .val (.ref sa), .val (.int (0 : Int32)), .val (.int (1 : Int32)), .val .null, .val (.ref da_20)] [(.ref da_20), (.ref so)])) (fun _ k => XS.aload X23.here hx rfl (hb hby d_jdk_42_method_149_code_52) rfl rfl k) ?_
  have f28 : Exa Z h23 so "java/lang/String" := (Exa.wr W23 f24)
  have f29 : Fld Z h23 so "java/lang/String" "value" "[B" .null := (Fld.other W23 (Fld.keep prem2 K20q nin0) (Or.inr (slot_ne (Or.inr (hw _ (List.mem_of_getElem? (i := 35) rfl))) (Or.inr (hw _ (List.mem_of_getElem? (i := 33) rfl))) (by decide) (t := (.array .byte)) (t' := .byte) (by decide) (by decide))))
  obtain ⟨T27, h27, X27, e27, W27, st27⟩ := putF X23 hx hZ hown (host := "") (Or.inl (hw _ (List.mem_of_getElem? (i := 34) rfl))) Via.refl e23 f29 f28 (Or.inr ⟨(hw _ (List.mem_of_getElem? (i := 35) rfl)), rfl, hnm⟩) (hw _ (List.mem_of_getElem? (i := 8) rfl)) (ty := (.array .byte)) (by decide) rfl rfl (g := (mkF m 54 #[.val (.ref so), .val (.ref sa), .val (.int (0 : Int32)), .val (.int (1 : Int32)), .val .null, .val (.ref da_20)] [(.ref da_20), (.ref so)])) rfl rfl (hb hby d_jdk_42_method_149_code_54)
  have O30 := Old0.wr O26 W27 prem4
  have K30 := Keep.wr K26 W27 (Or.inl (List.mem_of_getElem? (i := 0) rfl))
  have N27 := Fr.snoc X27 N23 prem4
  have f27 : Fld Z h27 so "java/lang/String" "value" "[B" (.ref da_20) := Fld.same W27 f29
  refine Go.of (T' := T27) (f' := (mkF m 57 #[.val (.ref so), .val (.ref sa), .val (.int (0 : Int32)), .val (.int (1 : Int32)), .val .null, .val (.ref da_20)] [])) (fun _ k => st27 _ k) ?_
  have f31 : Fld Z h27 so "java/lang/String" "coder" "B" (.int (0 : Int32)) := (Fld.other W27 f23 (Or.inr (slot_ne (Or.inr (hw _ (List.mem_of_getElem? (i := 33) rfl))) (Or.inr (hw _ (List.mem_of_getElem? (i := 35) rfl))) (by decide) (t := .byte) (t' := (.array .byte)) (by decide) (by decide))))
  have f32 : Arv Z h27 da_20 kd_20 .byte (1 : Int32) [(.int (x0.toInt8.toInt32))] (.int (0 : Int32)) := (Arv.other (Arv.other p20_1 W23 (Ne.symm ne_so_da_20)) W27 (Ne.symm ne_so_da_20))
  have f33 : Exa Z h27 da_20 "[B" := (Exa.wr W27 (Exa.wr W23 p20_2))
  exact Go.retV X27 hx hlk hret (hb hby d_jdk_42_method_149_code_57) (by decide) (by decide) (by rw [e27]; exact ⟨da_20, kd_20, rfl, N27, K30, z_da_20, f27, f31, f32, f33⟩)
theorem d_jdk_42_method_3_code_0 : decode jdk_42_method_3_code 0 = .ok (.aload_n 0, 1) := by decide +kernel
theorem d_jdk_42_method_3_code_1 : decode jdk_42_method_3_code 1 = .ok (.aload_n 1, 1) := by decide +kernel
theorem d_jdk_42_method_3_code_2 : decode jdk_42_method_3_code 2 = .ok (.iconst 0, 1) := by decide +kernel
theorem d_jdk_42_method_3_code_3 : decode jdk_42_method_3_code 3 = .ok (.aload_n 1, 1) := by decide +kernel
theorem d_jdk_42_method_3_code_4 : decode jdk_42_method_3_code 4 = .ok (.arraylength, 1) := by decide +kernel
theorem d_jdk_42_method_3_code_5 : decode jdk_42_method_3_code 5 = .ok (.aconst_null, 1) := by decide +kernel
theorem d_jdk_42_method_3_code_6 : decode jdk_42_method_3_code 6 = .ok (.invokespecial 27, 3) := by decide +kernel
theorem pd___CIILjava_lang_Void__V : parseMethodDescriptor "([CIILjava/lang/Void;)V" = some ⟨[(.array .char), .int, .int, (.object "java/lang/Void")], none⟩ := by decide +kernel
theorem d_jdk_42_method_3_code_9 : decode jdk_42_method_3_code 9 = .ok (.return_, 1) := by decide +kernel
theorem ef_rm_str_1 (m : MethodId) (so : Addr) (sa : Addr) : entryFrame m #[(.ref so), (.ref sa)] 2 = mkF m 0 #[.val (.ref so), .val (.ref sa)] [] := by first | (simp [entryFrame, mkF, argsToLocals, Value.category]; done) | rfl
theorem pn_java_lang_String__init____C_V : plainFor (⟨"java/lang/String", "<init>", "([C)V"⟩ : MethodName) = true := by first | exact plainFor_of_name (by first | (simp [plainName, overriddenIn]; done) | decide +kernel) | decide +kernel
set_option maxRecDepth 65536 in
set_option maxHeartbeats 40000000 in
theorem rm_str_1 {l : Launch} {Z : State} {a0 : Array Value} {s_FIFO : Addr} {s_UNORDERED : Addr} {s_COMPACT_STRINGS : Int32} {s_cache : Addr} {cl_s_cache : Cell} (hw : ∀ d ∈ tables_1, d.before a0 Z = true) (G : own_Ctx Z s_FIFO s_UNORDERED s_COMPACT_STRINGS s_cache cl_s_cache) (so : Addr) (sa : Addr) (ks : ClassId) (x0 : Int32) (h0 : Heap) (O0 : Ext Z.heap h0) (prem0 : ¬ ((255 : Int32) < x0)) (prem1 : Exa Z h0 so "java/lang/String") (prem2 : Fld Z h0 so "java/lang/String" "value" "[B" .null) (prem3 : Fld Z h0 so "java/lang/String" "coder" "B" (.int (0 : Int32))) (prem4 : Z.heap.size ≤ so) (prem5 : Arv Z h0 sa ks .char (1 : Int32) [(.int x0)] (.int (0 : Int32))) (prem6 : so ≠ sa) :
    Ok l Z (⟨"java/lang/String", "<init>", "([C)V"⟩ : MethodName) jdk_42_method_3_code 2 none ({ frames := 3, cells := 1, slots := 1, locals := 52 } : Room) #[(.ref so), (.ref sa)] h0
      (fun v h L => ∃ da : Addr, ∃ kd : ClassId, v = none ∧ (Fr Z.heap.size L) ∧ (Keep h0 h [so]) ∧ (h0.size ≤ da) ∧ (Fld Z h so "java/lang/String" "value" "[B" (.ref da)) ∧ (Fld Z h so "java/lang/String" "coder" "B" (.int (0 : Int32))) ∧ (Arv Z h da kd .byte (1 : Int32) [(.int (x0.toInt8.toInt32))] (.int (0 : Int32))) ∧ (Exa Z h da "[B")) := by
  refine Ok.mk pn_java_lang_String__init____C_V ?_
  intro p e s m below meth c T0 hx hby hml hown hnm hret hlk hZ e0 X0
  refine Go.cast (ef_rm_str_1 m so sa) ?_
  obtain ⟨S_FIFO, E_s_FIFO, F_s_FIFO_perPairOrder, S_UNORDERED, E_s_UNORDERED, F_s_UNORDERED_ordinal, F_s_FIFO_ordinal, F_s_UNORDERED_perPairOrder, S_COMPACT_STRINGS, hne_s_COMPACT_STRINGS_0, S_high, S_cache, E_s_cache, A_cache, Z_cache, H_cache, ne_UF⟩ := id G
  have N0 := Fr.nil Z.heap.size
  have K0 : Keep h0 h0 [so] := Keep.refl _ _
  refine Go.of (T' := T0) (f' := (mkF m 1 #[.val (.ref so), .val (.ref sa)] [(.ref so)])) (fun _ k => XS.aloadN X0.here hx rfl (hb hby d_jdk_42_method_3_code_0) rfl rfl k) ?_
  refine Go.of (T' := T0) (f' := (mkF m 2 #[.val (.ref so), .val (.ref sa)] [(.ref sa), (.ref so)])) (fun _ k => XS.aloadN X0.here hx rfl (hb hby d_jdk_42_method_3_code_1) rfl rfl k) ?_
  refine Go.of (T' := T0) (f' := (mkF m 3 #[.val (.ref so), .val (.ref sa)] [(.int (0 : Int32)), (.ref sa), (.ref so)])) (fun _ k => XS.iconst X0.here hx rfl (hb hby d_jdk_42_method_3_code_2) k) ?_
  refine Go.of (T' := T0) (f' := (mkF m 4 #[.val (.ref so), .val (.ref sa)] [(.ref sa), (.int (0 : Int32)), (.ref sa), (.ref so)])) (fun _ k => XS.aloadN X0.here hx rfl (hb hby d_jdk_42_method_3_code_3) rfl rfl k) ?_
  obtain ⟨cl34, Ar34, qk34, S34, Ng34, H34, G34⟩ := id prem5
  refine Go.of (T' := T0) (f' := (mkF m 5 #[.val (.ref so), .val (.ref sa)] [(.int (1 : Int32)), (.int (0 : Int32)), (.ref sa), (.ref so)])) (fun _ k => X0.arraylength hx (by rw [e0]; exact Ar34.1) (State.isArrayOf_alike hZ.alike Ar34.2.1) (g := (mkF m 4 #[.val (.ref so), .val (.ref sa)] [(.ref sa), (.int (0 : Int32)), (.ref sa), (.ref so)])) rfl rfl (hb hby d_jdk_42_method_3_code_4) _ (by rw [len_of S34 Ng34]; exact k)) ?_
  refine Go.of (T' := T0) (f' := (mkF m 6 #[.val (.ref so), .val (.ref sa)] [.null, (.int (1 : Int32)), (.int (0 : Int32)), (.ref sa), (.ref so)])) (fun _ k => XS.aconstNull X0.here hx rfl (hb hby d_jdk_42_method_3_code_5) k) ?_
  obtain ⟨T35, v35, L35, X35, q35, st35⟩ := callNew X0 hx hZ (y := (⟨"java/lang/String", "<init>", "([CIILjava/lang/Void;)V"⟩ : MethodName)) rfl hown (hw _ (List.mem_of_getElem? (i := 13) rfl)) (hw _ (List.mem_of_getElem? (i := 14) rfl)) (hw _ (List.mem_of_getElem? (i := 9) rfl)) (hw _ (List.mem_of_getElem? (i := 16) rfl)) (by decide) (rm_str4_1 hw G so sa ks x0 h0 O0 (prem0) prem1 prem2 prem3 prem4 prem5 prem6) e0 (W := 0) (by decide) (by decide) (by decide) (by decide) (g := (mkF m 6 #[.val (.ref so), .val (.ref sa)] [.null, (.int (1 : Int32)), (.int (0 : Int32)), (.ref sa), (.ref so)])) rfl (by rw [hml]; rfl) (a := so) (argsL := [(.ref sa), (.int (0 : Int32)), (.int (1 : Int32)), .null]) (rest := []) (lenOf pd___CIILjava_lang_Void__V rfl) rfl rfl (by show 2 * 0 + _ ≤ _; exact Nat.le_of_eq rfl) (hb hby d_jdk_42_method_3_code_6)
  obtain ⟨da_35, kd_35, rfl, N35q, K35q, p35_0, p35_1, p35_2, p35_3, p35_4⟩ := q35
  have N35 := Fr.app N0 N35q
  have O36 := Old0.keep O0 K35q (allS prem4 all0)
  have K36 := Keep.trans K0 K35q (allS (Or.inl (List.mem_of_getElem? (i := 0) rfl)) all0)
  have z_da_35 : h0.size ≤ da_35 := Nat.le_trans K0.1 p35_0
  have g_da_35 : Z.heap.size ≤ da_35 := Nat.le_trans O0.1 p35_0
  have ne_so_da_35 : so ≠ da_35 := Nat.ne_of_lt (Nat.lt_of_lt_of_le prem1.lt p35_0)
  have ne_sa_da_35 : sa ≠ da_35 := Nat.ne_of_lt (Nat.lt_of_lt_of_le prem5.lt p35_0)
  refine Go.of (T' := T35) (f' := (mkF m 9 #[.val (.ref so), .val (.ref sa)] [])) (fun _ k => st35 _ k) ?_
  exact Go.retV X35 hx hlk hret (hb hby d_jdk_42_method_3_code_9) (by decide) (by decide) ⟨da_35, kd_35, rfl, N35, K36, z_da_35, p35_1, p35_2, p35_3, p35_4⟩
theorem own_cacheidx (p : Int32) (h1 : ¬ (p < (-128 : Int32))) (h2 : ¬ ((127 : Int32) < p)) (n : Nat) (hn : n = 256) : ¬ ((p + (128 : Int32)) < 0 ∨ n ≤ (p + (128 : Int32)).toNatClampNeg) := by
  rw [Int32.lt_iff_toInt_lt] at h1 h2
  have e1 : ((-128 : Int32)).toInt = -128 := by decide
  have e2 : ((127 : Int32)).toInt = 127 := by decide
  have e3 : ((128 : Int32)).toInt = 128 := by decide
  have e4 : ((0 : Int32)).toInt = 0 := by decide
  have q := c_iadd p 128
  have r := rng32 (p + 128)
  rw [e3] at q
  rw [Int32.lt_iff_toInt_lt]
  simp only [Int32.toNatClampNeg]
  omega
theorem d_jdk_18_method_1_code_0 : decode jdk_18_method_1_code 0 = .ok (.aload_n 0, 1) := by decide +kernel
theorem d_jdk_18_method_1_code_1 : decode jdk_18_method_1_code 1 = .ok (.invokespecial 1, 3) := by decide +kernel
theorem d_jdk_18_method_1_code_4 : decode jdk_18_method_1_code 4 = .ok (.return_, 1) := by decide +kernel
theorem ef_rm_num (m : MethodId) (ob : Addr) : entryFrame m #[(.ref ob)] 1 = mkF m 0 #[.val (.ref ob)] [] := by first | (simp [entryFrame, mkF, argsToLocals, Value.category]; done) | rfl
theorem pn_java_lang_Number__init____V : plainFor (⟨"java/lang/Number", "<init>", "()V"⟩ : MethodName) = true := by first | exact plainFor_of_name (by first | (simp [plainName, overriddenIn]; done) | decide +kernel) | decide +kernel
set_option maxRecDepth 65536 in
set_option maxHeartbeats 40000000 in
theorem rm_num {l : Launch} {Z : State} {a0 : Array Value} {s_FIFO : Addr} {s_UNORDERED : Addr} {s_COMPACT_STRINGS : Int32} {s_cache : Addr} {cl_s_cache : Cell} (hw : ∀ d ∈ tables_1, d.before a0 Z = true) (G : own_Ctx Z s_FIFO s_UNORDERED s_COMPACT_STRINGS s_cache cl_s_cache) (ob : Addr)  (h0 : Heap) (O0 : Ext Z.heap h0)  :
    Ok l Z (⟨"java/lang/Number", "<init>", "()V"⟩ : MethodName) jdk_18_method_1_code 1 none ({ frames := 1, cells := 0, slots := 0, locals := 12 } : Room) #[(.ref ob)] h0
      (fun v h L => v = none ∧ (h = h0) ∧ (L = [])) := by
  refine Ok.mk pn_java_lang_Number__init____V ?_
  intro p e s m below meth c T0 hx hby hml hown hnm hret hlk hZ e0 X0
  refine Go.cast (ef_rm_num m ob) ?_
  obtain ⟨S_FIFO, E_s_FIFO, F_s_FIFO_perPairOrder, S_UNORDERED, E_s_UNORDERED, F_s_UNORDERED_ordinal, F_s_FIFO_ordinal, F_s_UNORDERED_perPairOrder, S_COMPACT_STRINGS, hne_s_COMPACT_STRINGS_0, S_high, S_cache, E_s_cache, A_cache, Z_cache, H_cache, ne_UF⟩ := id G
  have N0 := Fr.nil Z.heap.size
  have K0 : Keep h0 h0 [] := Keep.refl _ _
  refine Go.of (T' := T0) (f' := (mkF m 1 #[.val (.ref ob)] [(.ref ob)])) (fun _ k => XS.aloadN X0.here hx rfl (hb hby d_jdk_18_method_1_code_0) rfl rfl k) ?_
  obtain ⟨T37, X37, e37, st37⟩ := initO X0 hx hZ hown (hw _ (List.mem_of_getElem? (i := 100) rfl)) (hw _ (List.mem_of_getElem? (i := 18) rfl)) (hw _ (List.mem_of_getElem? (i := 19) rfl)) e0 (g := (mkF m 1 #[.val (.ref ob)] [(.ref ob)])) rfl (by rw [hml]; rfl) rfl (hb hby d_jdk_18_method_1_code_1) (by decide) (W := 0) (by show 2 * 0 + _ ≤ _; exact Nat.le_of_eq rfl) (by decide)
  refine Go.of (T' := T37) (f' := (mkF m 4 #[.val (.ref ob)] [])) (fun _ k => st37 _ k) ?_
  exact Go.retV X37 hx hlk hret (hb hby d_jdk_18_method_1_code_4) (by decide) (by decide) (by rw [e37]; exact ⟨rfl, rfl, by simp⟩)
theorem d_jdk_33_method_23_code_0 : decode jdk_33_method_23_code 0 = .ok (.aload_n 0, 1) := by decide +kernel
theorem d_jdk_33_method_23_code_1 : decode jdk_33_method_23_code 1 = .ok (.invokespecial 202, 3) := by decide +kernel
theorem pd___V : parseMethodDescriptor "()V" = some ⟨[], none⟩ := by decide +kernel
theorem d_jdk_33_method_23_code_4 : decode jdk_33_method_23_code 4 = .ok (.aload_n 0, 1) := by decide +kernel
theorem d_jdk_33_method_23_code_5 : decode jdk_33_method_23_code 5 = .ok (.iload_n 1, 1) := by decide +kernel
theorem d_jdk_33_method_23_code_6 : decode jdk_33_method_23_code 6 = .ok (.putfield 205, 3) := by decide +kernel
theorem d_jdk_33_method_23_code_9 : decode jdk_33_method_23_code 9 = .ok (.return_, 1) := by decide +kernel
theorem ef_rm_iinit (m : MethodId) (ob : Addr) (p0 : Int32) : entryFrame m #[(.ref ob), (.int p0)] 2 = mkF m 0 #[.val (.ref ob), .val (.int p0)] [] := by first | (simp [entryFrame, mkF, argsToLocals, Value.category]; done) | rfl
theorem pn_java_lang_Integer__init___I_V : plainFor (⟨"java/lang/Integer", "<init>", "(I)V"⟩ : MethodName) = true := by first | exact plainFor_of_name (by first | (simp [plainName, overriddenIn]; done) | decide +kernel) | decide +kernel
set_option maxRecDepth 65536 in
set_option maxHeartbeats 40000000 in
theorem rm_iinit {l : Launch} {Z : State} {a0 : Array Value} {s_FIFO : Addr} {s_UNORDERED : Addr} {s_COMPACT_STRINGS : Int32} {s_cache : Addr} {cl_s_cache : Cell} (hw : ∀ d ∈ tables_1, d.before a0 Z = true) (G : own_Ctx Z s_FIFO s_UNORDERED s_COMPACT_STRINGS s_cache cl_s_cache) (ob : Addr) (p0 : Int32)  (h0 : Heap) (O0 : Ext Z.heap h0) (prem0 : Exa Z h0 ob "java/lang/Integer") (prem1 : Fld Z h0 ob "java/lang/Integer" "value" "I" (.int (0 : Int32))) (prem2 : Z.heap.size ≤ ob) :
    Ok l Z (⟨"java/lang/Integer", "<init>", "(I)V"⟩ : MethodName) jdk_33_method_23_code 2 none ({ frames := 2, cells := 0, slots := 0, locals := 24 } : Room) #[(.ref ob), (.int p0)] h0
      (fun v h L => v = none ∧ (Fr Z.heap.size L) ∧ (Keep h0 h [ob])) := by
  refine Ok.mk pn_java_lang_Integer__init___I_V ?_
  intro p e s m below meth c T0 hx hby hml hown hnm hret hlk hZ e0 X0
  refine Go.cast (ef_rm_iinit m ob p0) ?_
  obtain ⟨S_FIFO, E_s_FIFO, F_s_FIFO_perPairOrder, S_UNORDERED, E_s_UNORDERED, F_s_UNORDERED_ordinal, F_s_FIFO_ordinal, F_s_UNORDERED_perPairOrder, S_COMPACT_STRINGS, hne_s_COMPACT_STRINGS_0, S_high, S_cache, E_s_cache, A_cache, Z_cache, H_cache, ne_UF⟩ := id G
  have N0 := Fr.nil Z.heap.size
  have K0 : Keep h0 h0 [ob] := Keep.refl _ _
  refine Go.of (T' := T0) (f' := (mkF m 1 #[.val (.ref ob), .val (.int p0)] [(.ref ob)])) (fun _ k => XS.aloadN X0.here hx rfl (hb hby d_jdk_33_method_23_code_0) rfl rfl k) ?_
  obtain ⟨T38, v38, L38, X38, q38, st38⟩ := callNew X0 hx hZ (y := (⟨"java/lang/Number", "<init>", "()V"⟩ : MethodName)) rfl hown (hw _ (List.mem_of_getElem? (i := 94) rfl)) (hw _ (List.mem_of_getElem? (i := 95) rfl)) (hw _ (List.mem_of_getElem? (i := 98) rfl)) (hw _ (List.mem_of_getElem? (i := 99) rfl)) (by decide) (rm_num hw G ob  h0 O0 ) e0 (W := 0) (by decide) (by decide) (by decide) (by decide) (g := (mkF m 1 #[.val (.ref ob), .val (.int p0)] [(.ref ob)])) rfl (by rw [hml]; rfl) (a := ob) (argsL := []) (rest := []) (lenOf pd___V rfl) rfl rfl (by show 2 * 0 + _ ≤ _; exact Nat.le_of_eq rfl) (hb hby d_jdk_33_method_23_code_1)
  obtain ⟨rfl, e38, rfl⟩ := q38
  have N38 := Fr.app N0 (Fr.nil _)
  refine Go.of (T' := T38) (f' := (mkF m 4 #[.val (.ref ob), .val (.int p0)] [])) (fun _ k => st38 _ k) ?_
  refine Go.of (T' := T38) (f' := (mkF m 5 #[.val (.ref ob), .val (.int p0)] [(.ref ob)])) (fun _ k => XS.aloadN X38.here hx rfl (hb hby d_jdk_33_method_23_code_4) rfl rfl k) ?_
  refine Go.of (T' := T38) (f' := (mkF m 6 #[.val (.ref ob), .val (.int p0)] [(.int p0), (.ref ob)])) (fun _ k => XS.iloadN X38.here hx rfl (hb hby d_jdk_33_method_23_code_5) rfl k) ?_
  obtain ⟨T39, h39, X39, e39, W39, st39⟩ := putF X38 hx hZ hown (host := "") (Or.inl (hw _ (List.mem_of_getElem? (i := 101) rfl))) Via.refl e38 prem1 prem0 (Or.inr ⟨(hw _ (List.mem_of_getElem? (i := 102) rfl)), rfl, hnm⟩) (hw _ (List.mem_of_getElem? (i := 89) rfl)) (ty := .int) (by decide) rfl rfl (g := (mkF m 6 #[.val (.ref ob), .val (.int p0)] [(.int p0), (.ref ob)])) rfl rfl (hb hby d_jdk_33_method_23_code_6)
  have O40 := Old0.wr O0 W39 prem2
  have K40 := Keep.wr K0 W39 (Or.inl (List.mem_of_getElem? (i := 0) rfl))
  have N39 := Fr.snoc X39 N38 prem2
  have f39 : Fld Z h39 ob "java/lang/Integer" "value" "I" (.int p0) := Fld.same W39 prem1
  refine Go.of (T' := T39) (f' := (mkF m 9 #[.val (.ref ob), .val (.int p0)] [])) (fun _ k => st39 _ k) ?_
  exact Go.retV X39 hx hlk hret (hb hby d_jdk_33_method_23_code_9) (by decide) (by decide) (by rw [e39]; exact ⟨rfl, N39, K40⟩)
theorem d_jdk_33_method_22_code_0 : decode jdk_33_method_22_code 0 = .ok (.iload_n 0, 1) := by decide +kernel
theorem d_jdk_33_method_22_code_1 : decode jdk_33_method_22_code 1 = .ok (.bipush (-128), 2) := by decide +kernel
theorem d_jdk_33_method_22_code_3 : decode jdk_33_method_22_code 3 = .ok (.if_icmp .lt 20, 3) := by decide +kernel
theorem d_jdk_33_method_22_code_23 : decode jdk_33_method_22_code 23 = .ok (.new 1, 3) := by decide +kernel
theorem d_jdk_33_method_22_code_26 : decode jdk_33_method_22_code 26 = .ok (.dup, 1) := by decide +kernel
theorem d_jdk_33_method_22_code_27 : decode jdk_33_method_22_code 27 = .ok (.iload_n 0, 1) := by decide +kernel
theorem d_jdk_33_method_22_code_28 : decode jdk_33_method_22_code 28 = .ok (.invokespecial 199, 3) := by decide +kernel
theorem pd__I_V : parseMethodDescriptor "(I)V" = some ⟨[.int], none⟩ := by decide +kernel
theorem d_jdk_33_method_22_code_31 : decode jdk_33_method_22_code 31 = .ok (.areturn, 1) := by decide +kernel
theorem d_jdk_33_method_22_code_6 : decode jdk_33_method_22_code 6 = .ok (.iload_n 0, 1) := by decide +kernel
theorem d_jdk_33_method_22_code_7 : decode jdk_33_method_22_code 7 = .ok (.getstatic 191, 3) := by decide +kernel
theorem d_jdk_33_method_22_code_10 : decode jdk_33_method_22_code 10 = .ok (.if_icmp .gt 13, 3) := by decide +kernel
theorem d_jdk_33_method_22_code_13 : decode jdk_33_method_22_code 13 = .ok (.getstatic 195, 3) := by decide +kernel
theorem d_jdk_33_method_22_code_16 : decode jdk_33_method_22_code 16 = .ok (.iload_n 0, 1) := by decide +kernel
theorem d_jdk_33_method_22_code_17 : decode jdk_33_method_22_code 17 = .ok (.sipush 128, 3) := by decide +kernel
theorem d_jdk_33_method_22_code_20 : decode jdk_33_method_22_code 20 = .ok (.iadd, 1) := by decide +kernel
theorem d_jdk_33_method_22_code_21 : decode jdk_33_method_22_code 21 = .ok (.aaload, 1) := by decide +kernel
theorem d_jdk_33_method_22_code_22 : decode jdk_33_method_22_code 22 = .ok (.areturn, 1) := by decide +kernel
theorem ef_rm_valueOf (m : MethodId) (p0 : Int32) : entryFrame m #[(.int p0)] 1 = mkF m 0 #[.val (.int p0)] [] := by first | (simp [entryFrame, mkF, argsToLocals, Value.category]; done) | rfl
theorem pn_java_lang_Integer_valueOf__I_Ljava_lang_Integer_ : plainFor (⟨"java/lang/Integer", "valueOf", "(I)Ljava/lang/Integer;"⟩ : MethodName) = true := by first | exact plainFor_of_name (by first | (simp [plainName, overriddenIn]; done) | decide +kernel) | decide +kernel
set_option maxRecDepth 65536 in
set_option maxHeartbeats 40000000 in
theorem rm_valueOf {l : Launch} {Z : State} {a0 : Array Value} {s_FIFO : Addr} {s_UNORDERED : Addr} {s_COMPACT_STRINGS : Int32} {s_cache : Addr} {cl_s_cache : Cell} (hw : ∀ d ∈ tables_1, d.before a0 Z = true) (G : own_Ctx Z s_FIFO s_UNORDERED s_COMPACT_STRINGS s_cache cl_s_cache) (p0 : Int32)  (h0 : Heap) (O0 : Ext Z.heap h0)  :
    Ok l Z (⟨"java/lang/Integer", "valueOf", "(I)Ljava/lang/Integer;"⟩ : MethodName) jdk_33_method_22_code 1 (some (.object "java/lang/Integer")) ({ frames := 3, cells := 1, slots := 1, locals := 38 } : Room) #[(.int p0)] h0
      (fun v h L => ∃ r : Addr, v = some (.ref r) ∧ (Fr Z.heap.size L) ∧ (Keep h0 h [])) := by
  refine Ok.mk pn_java_lang_Integer_valueOf__I_Ljava_lang_Integer_ ?_
  intro p e s m below meth c T0 hx hby hml hown hnm hret hlk hZ e0 X0
  refine Go.cast (ef_rm_valueOf m p0) ?_
  obtain ⟨S_FIFO, E_s_FIFO, F_s_FIFO_perPairOrder, S_UNORDERED, E_s_UNORDERED, F_s_UNORDERED_ordinal, F_s_FIFO_ordinal, F_s_UNORDERED_perPairOrder, S_COMPACT_STRINGS, hne_s_COMPACT_STRINGS_0, S_high, S_cache, E_s_cache, A_cache, Z_cache, H_cache, ne_UF⟩ := id G
  have N0 := Fr.nil Z.heap.size
  have K0 : Keep h0 h0 [] := Keep.refl _ _
  refine Go.of (T' := T0) (f' := (mkF m 1 #[.val (.int p0)] [(.int p0)])) (fun _ k => XS.iloadN X0.here hx rfl (hb hby d_jdk_33_method_22_code_0) rfl k) ?_
  refine Go.of (T' := T0) (f' := (mkF m 3 #[.val (.int p0)] [(.int (-128 : Int32)), (.int p0)])) (fun _ k => XS.bipush X0.here hx rfl (hb hby d_jdk_33_method_22_code_1) k) ?_
  by_cases hc41 : p0 < (-128 : Int32)
  · skip
    refine Go.of (T' := T0) (f' := (mkF m 23 #[.val (.int p0)] [])) (fun _ k => XS.icmpYes X0.here hx rfl (pc0 := 3) (pc' := 23) rfl (hb hby d_jdk_33_method_22_code_3) rfl (tlt hc41).1 (by decide) (by decide) k) ?_
    obtain ⟨T42, h42, b42, q42, X42, e42, E42, A42, D42, st42⟩ := newOb X0 hx hZ hown (hw _ (List.mem_of_getElem? (i := 88) rfl)) (hw _ (List.mem_of_getElem? (i := 89) rfl)) (hw _ (List.mem_of_getElem? (i := 38) rfl)) e0 (g := (mkF m 23 #[.val (.int p0)] [])) rfl (hb hby d_jdk_33_method_22_code_23) (by decide) (by decide)
    have O43 := Old0.ext O0 E42
    have K43 := Keep.ext K0 E42
    have g_b42 : Z.heap.size ≤ b42 := q42 ▸ O0.1
    have z_b42 : h0.size ≤ b42 := q42 ▸ K0.1
    have f44 : Fld Z h42 b42 "java/lang/Integer" "value" "I" (.int (0 : Int32)) := D42 (Or.inr (hw _ (List.mem_of_getElem? (i := 102) rfl))) (ty := .int) (by decide)
    refine Go.of (T' := T42) (f' := (mkF m 26 #[.val (.int p0)] [(.ref b42)])) (fun _ k => st42 _ k) ?_
    refine Go.of (T' := T42) (f' := (mkF m 27 #[.val (.int p0)] [(.ref b42), (.ref b42)])) (fun _ k => XS.dup X42.here hx rfl (hb hby d_jdk_33_method_22_code_26) rfl rfl k) ?_
    refine Go.of (T' := T42) (f' := (mkF m 28 #[.val (.int p0)] [(.int p0), (.ref b42), (.ref b42)])) (fun _ k => XS.iloadN X42.here hx rfl (hb hby d_jdk_33_method_22_code_27) rfl k) ?_
    obtain ⟨T45, v45, L45, X45, q45, st45⟩ := callNew X42 hx hZ (y := (⟨"java/lang/Integer", "<init>", "(I)V"⟩ : MethodName)) rfl hown (hw _ (List.mem_of_getElem? (i := 90) rfl)) (hw _ (List.mem_of_getElem? (i := 91) rfl)) (hw _ (List.mem_of_getElem? (i := 38) rfl)) (hw _ (List.mem_of_getElem? (i := 93) rfl)) (by decide) (rm_iinit hw G b42 p0  h42 O43 A42 f44 g_b42) e42 (W := 1) (by decide) (by decide) (by decide) (by decide) (g := (mkF m 28 #[.val (.int p0)] [(.int p0), (.ref b42), (.ref b42)])) rfl (by rw [hml]; rfl) (a := b42) (argsL := [(.int p0)]) (rest := [(.ref b42)]) (lenOf pd__I_V rfl) rfl rfl (by show 2 * 0 + _ ≤ _; exact Nat.le_of_eq rfl) (hb hby d_jdk_33_method_22_code_28)
    obtain ⟨rfl, N45q, K45q⟩ := q45
    have N45 := Fr.app N0 N45q
    have O46 := Old0.keep O43 K45q (allS g_b42 all0)
    have K46 := Keep.trans K43 K45q (allS (Or.inr z_b42) all0)
    refine Go.of (T' := T45) (f' := (mkF m 31 #[.val (.int p0)] [(.ref b42)])) (fun _ k => st45 _ k) ?_
    exact Go.retA X45 hx hlk hret rfl rfl (hb hby d_jdk_33_method_22_code_31) (by decide) (by decide) ⟨b42, rfl, N45, K46⟩
  · skip
    refine Go.of (T' := T0) (f' := (mkF m 6 #[.val (.int p0)] [])) (fun _ k => XS.icmpNo X0.here hx rfl (hb hby d_jdk_33_method_22_code_3) rfl (flt hc41).1 k) ?_
    refine Go.of (T' := T0) (f' := (mkF m 7 #[.val (.int p0)] [(.int p0)])) (fun _ k => XS.iloadN X0.here hx rfl (hb hby d_jdk_33_method_22_code_6) rfl k) ?_
    obtain ⟨T47, X47, e47, st47⟩ := getS2 X0 hx hZ hown (host := "") (Or.inl (hw _ (List.mem_of_getElem? (i := 40) rfl))) Via.refl e0 (Sta.ext O0 S_high) (g := (mkF m 7 #[.val (.int p0)] [(.int p0)])) rfl (hb hby d_jdk_33_method_22_code_7)
    refine Go.of (T' := T47) (f' := (mkF m 10 #[.val (.int p0)] [(.int (127 : Int32)), (.int p0)])) (fun _ k => st47 _ k) ?_
    by_cases hc48 : (127 : Int32) < p0
    · skip
      refine Go.of (T' := T47) (f' := (mkF m 23 #[.val (.int p0)] [])) (fun _ k => XS.icmpYes X47.here hx rfl (pc0 := 10) (pc' := 23) rfl (hb hby d_jdk_33_method_22_code_10) rfl (tlt hc48).2.2.1 (by decide) (by decide) k) ?_
      obtain ⟨T49, h49, b49, q49, X49, e49, E49, A49, D49, st49⟩ := newOb X47 hx hZ hown (hw _ (List.mem_of_getElem? (i := 88) rfl)) (hw _ (List.mem_of_getElem? (i := 89) rfl)) (hw _ (List.mem_of_getElem? (i := 38) rfl)) e47 (g := (mkF m 23 #[.val (.int p0)] [])) rfl (hb hby d_jdk_33_method_22_code_23) (by decide) (by decide)
      have O50 := Old0.ext O0 E49
      have K50 := Keep.ext K0 E49
      have g_b49 : Z.heap.size ≤ b49 := q49 ▸ O0.1
      have z_b49 : h0.size ≤ b49 := q49 ▸ K0.1
      have f51 : Fld Z h49 b49 "java/lang/Integer" "value" "I" (.int (0 : Int32)) := D49 (Or.inr (hw _ (List.mem_of_getElem? (i := 102) rfl))) (ty := .int) (by decide)
      refine Go.of (T' := T49) (f' := (mkF m 26 #[.val (.int p0)] [(.ref b49)])) (fun _ k => st49 _ k) ?_
      refine Go.of (T' := T49) (f' := (mkF m 27 #[.val (.int p0)] [(.ref b49), (.ref b49)])) (fun _ k => XS.dup X49.here hx rfl (hb hby d_jdk_33_method_22_code_26) rfl rfl k) ?_
      refine Go.of (T' := T49) (f' := (mkF m 28 #[.val (.int p0)] [(.int p0), (.ref b49), (.ref b49)])) (fun _ k => XS.iloadN X49.here hx rfl (hb hby d_jdk_33_method_22_code_27) rfl k) ?_
      obtain ⟨T52, v52, L52, X52, q52, st52⟩ := callNew X49 hx hZ (y := (⟨"java/lang/Integer", "<init>", "(I)V"⟩ : MethodName)) rfl hown (hw _ (List.mem_of_getElem? (i := 90) rfl)) (hw _ (List.mem_of_getElem? (i := 91) rfl)) (hw _ (List.mem_of_getElem? (i := 38) rfl)) (hw _ (List.mem_of_getElem? (i := 93) rfl)) (by decide) (rm_iinit hw G b49 p0  h49 O50 A49 f51 g_b49) e49 (W := 1) (by decide) (by decide) (by decide) (by decide) (g := (mkF m 28 #[.val (.int p0)] [(.int p0), (.ref b49), (.ref b49)])) rfl (by rw [hml]; rfl) (a := b49) (argsL := [(.int p0)]) (rest := [(.ref b49)]) (lenOf pd__I_V rfl) rfl rfl (by show 2 * 0 + _ ≤ _; exact Nat.le_of_eq rfl) (hb hby d_jdk_33_method_22_code_28)
      obtain ⟨rfl, N52q, K52q⟩ := q52
      have N52 := Fr.app N0 N52q
      have O53 := Old0.keep O50 K52q (allS g_b49 all0)
      have K53 := Keep.trans K50 K52q (allS (Or.inr z_b49) all0)
      refine Go.of (T' := T52) (f' := (mkF m 31 #[.val (.int p0)] [(.ref b49)])) (fun _ k => st52 _ k) ?_
      exact Go.retA X52 hx hlk hret rfl rfl (hb hby d_jdk_33_method_22_code_31) (by decide) (by decide) ⟨b49, rfl, N52, K53⟩
    · skip
      refine Go.of (T' := T47) (f' := (mkF m 13 #[.val (.int p0)] [])) (fun _ k => XS.icmpNo X47.here hx rfl (hb hby d_jdk_33_method_22_code_10) rfl (flt hc48).2.2.1 k) ?_
      obtain ⟨T54, X54, e54, st54⟩ := getS2 X47 hx hZ hown (host := "") (Or.inl (hw _ (List.mem_of_getElem? (i := 42) rfl))) Via.refl e47 (Sta.ext O0 S_cache) (g := (mkF m 13 #[.val (.int p0)] [])) rfl (hb hby d_jdk_33_method_22_code_13)
      refine Go.of (T' := T54) (f' := (mkF m 16 #[.val (.int p0)] [(.ref s_cache)])) (fun _ k => st54 _ k) ?_
      refine Go.of (T' := T54) (f' := (mkF m 17 #[.val (.int p0)] [(.int p0), (.ref s_cache)])) (fun _ k => XS.iloadN X54.here hx rfl (hb hby d_jdk_33_method_22_code_16) rfl k) ?_
      refine Go.of (T' := T54) (f' := (mkF m 20 #[.val (.int p0)] [(.int (128 : Int32)), (.int p0), (.ref s_cache)])) (fun _ k => XS.sipush X54.here hx rfl (hb hby d_jdk_33_method_22_code_17) k) ?_
      refine Go.of (T' := T54) (f' := (mkF m 21 #[.val (.int p0)] [(.int (p0 + (128 : Int32))), (.ref s_cache)])) (fun _ k => XS.iadd X54.here hx rfl (hb hby d_jdk_33_method_22_code_20) rfl k) ?_
      have hin55 := own_cacheidx p0 hc41 hc48 _ Z_cache
      obtain ⟨y55, hy55⟩ := H_cache _ (Nat.lt_of_not_le fun q => hin55 (Or.inr (Z_cache ▸ q)))
      have A55 := Arr.ext O0 A_cache
      refine Go.of (T' := T54) (f' := (mkF m 22 #[.val (.int p0)] [(.ref y55)])) (fun _ k => X54.aaload hx (j := (p0 + (128 : Int32))) (v := .ref y55) (by rw [e54]; exact A55.1) (State.isArrayOf_alike hZ.alike A55.2.1) rfl A55.2.2 hin55 hy55 (g := (mkF m 21 #[.val (.int p0)] [(.int (p0 + (128 : Int32))), (.ref s_cache)])) rfl rfl (hb hby d_jdk_33_method_22_code_21) _ k) ?_
      exact Go.retA X54 hx hlk hret rfl rfl (hb hby d_jdk_33_method_22_code_22) (by decide) (by decide) (by rw [e54]; exact ⟨y55, rfl, N0, K0⟩)
theorem d_jdk_30_method_1_code_0 : decode jdk_30_method_1_code 0 = .ok (.aload_n 0, 1) := by decide +kernel
theorem d_jdk_30_method_1_code_1 : decode jdk_30_method_1_code 1 = .ok (.invokespecial 1, 3) := by decide +kernel
theorem d_jdk_30_method_1_code_4 : decode jdk_30_method_1_code 4 = .ok (.return_, 1) := by decide +kernel
theorem ef_rm_rec (m : MethodId) (ob : Addr) : entryFrame m #[(.ref ob)] 1 = mkF m 0 #[.val (.ref ob)] [] := by first | (simp [entryFrame, mkF, argsToLocals, Value.category]; done) | rfl
theorem pn_java_lang_Record__init____V : plainFor (⟨"java/lang/Record", "<init>", "()V"⟩ : MethodName) = true := by first | exact plainFor_of_name (by first | (simp [plainName, overriddenIn]; done) | decide +kernel) | decide +kernel
set_option maxRecDepth 65536 in
set_option maxHeartbeats 40000000 in
theorem rm_rec {l : Launch} {Z : State} {a0 : Array Value} {s_FIFO : Addr} {s_UNORDERED : Addr} {s_COMPACT_STRINGS : Int32} {s_cache : Addr} {cl_s_cache : Cell} (hw : ∀ d ∈ tables_1, d.before a0 Z = true) (G : own_Ctx Z s_FIFO s_UNORDERED s_COMPACT_STRINGS s_cache cl_s_cache) (ob : Addr)  (h0 : Heap) (O0 : Ext Z.heap h0)  :
    Ok l Z (⟨"java/lang/Record", "<init>", "()V"⟩ : MethodName) jdk_30_method_1_code 1 none ({ frames := 1, cells := 0, slots := 0, locals := 12 } : Room) #[(.ref ob)] h0
      (fun v h L => v = none ∧ (h = h0) ∧ (L = [])) := by
  refine Ok.mk pn_java_lang_Record__init____V ?_
  intro p e s m below meth c T0 hx hby hml hown hnm hret hlk hZ e0 X0
  refine Go.cast (ef_rm_rec m ob) ?_
  obtain ⟨S_FIFO, E_s_FIFO, F_s_FIFO_perPairOrder, S_UNORDERED, E_s_UNORDERED, F_s_UNORDERED_ordinal, F_s_FIFO_ordinal, F_s_UNORDERED_perPairOrder, S_COMPACT_STRINGS, hne_s_COMPACT_STRINGS_0, S_high, S_cache, E_s_cache, A_cache, Z_cache, H_cache, ne_UF⟩ := id G
  have N0 := Fr.nil Z.heap.size
  have K0 : Keep h0 h0 [] := Keep.refl _ _
  refine Go.of (T' := T0) (f' := (mkF m 1 #[.val (.ref ob)] [(.ref ob)])) (fun _ k => XS.aloadN X0.here hx rfl (hb hby d_jdk_30_method_1_code_0) rfl rfl k) ?_
  obtain ⟨T56, X56, e56, st56⟩ := initO X0 hx hZ hown (hw _ (List.mem_of_getElem? (i := 51) rfl)) (hw _ (List.mem_of_getElem? (i := 18) rfl)) (hw _ (List.mem_of_getElem? (i := 19) rfl)) e0 (g := (mkF m 1 #[.val (.ref ob)] [(.ref ob)])) rfl (by rw [hml]; rfl) rfl (hb hby d_jdk_30_method_1_code_1) (by decide) (W := 0) (by show 2 * 0 + _ ≤ _; exact Nat.le_of_eq rfl) (by decide)
  refine Go.of (T' := T56) (f' := (mkF m 4 #[.val (.ref ob)] [])) (fun _ k => st56 _ k) ?_
  exact Go.retV X56 hx hlk hret (hb hby d_jdk_30_method_1_code_4) (by decide) (by decide) (by rw [e56]; exact ⟨rfl, rfl, by simp⟩)
theorem d_jdk_31_method_11_code_0 : decode jdk_31_method_11_code 0 = .ok (.aload_n 0, 1) := by decide +kernel
theorem d_jdk_31_method_11_code_1 : decode jdk_31_method_11_code 1 = .ok (.ifnonnull 12, 3) := by decide +kernel
theorem d_jdk_31_method_11_code_13 : decode jdk_31_method_11_code 13 = .ok (.aload_n 0, 1) := by decide +kernel
theorem d_jdk_31_method_11_code_14 : decode jdk_31_method_11_code 14 = .ok (.areturn, 1) := by decide +kernel
theorem ef_rm_rnn (m : MethodId) (oa : Addr) (om : Addr) : entryFrame m #[(.ref oa), (.ref om)] 2 = mkF m 0 #[.val (.ref oa), .val (.ref om)] [] := by first | (simp [entryFrame, mkF, argsToLocals, Value.category]; done) | rfl
theorem pn_java_util_Objects_requireNonNull__Ljava_lang_Object_Ljava_lang_String__Ljava_lang_Object_ : plainFor (⟨"java/util/Objects", "requireNonNull", "(Ljava/lang/Object;Ljava/lang/String;)Ljava/lang/Object;"⟩ : MethodName) = true := by first | exact plainFor_of_name (by first | (simp [plainName, overriddenIn]; done) | decide +kernel) | decide +kernel
set_option maxRecDepth 65536 in
set_option maxHeartbeats 40000000 in
theorem rm_rnn {l : Launch} {Z : State} {a0 : Array Value} {s_FIFO : Addr} {s_UNORDERED : Addr} {s_COMPACT_STRINGS : Int32} {s_cache : Addr} {cl_s_cache : Cell} (hw : ∀ d ∈ tables_1, d.before a0 Z = true) (G : own_Ctx Z s_FIFO s_UNORDERED s_COMPACT_STRINGS s_cache cl_s_cache) (oa : Addr) (om : Addr)  (h0 : Heap) (O0 : Ext Z.heap h0)  :
    Ok l Z (⟨"java/util/Objects", "requireNonNull", "(Ljava/lang/Object;Ljava/lang/String;)Ljava/lang/Object;"⟩ : MethodName) jdk_31_method_11_code 2 (some (.object "java/lang/Object")) ({ frames := 0, cells := 0, slots := 0, locals := 0 } : Room) #[(.ref oa), (.ref om)] h0
      (fun v h L => v = some (.ref oa) ∧ (h = h0) ∧ (L = [])) := by
  refine Ok.mk pn_java_util_Objects_requireNonNull__Ljava_lang_Object_Ljava_lang_String__Ljava_lang_Object_ ?_
  intro p e s m below meth c T0 hx hby hml hown hnm hret hlk hZ e0 X0
  refine Go.cast (ef_rm_rnn m oa om) ?_
  obtain ⟨S_FIFO, E_s_FIFO, F_s_FIFO_perPairOrder, S_UNORDERED, E_s_UNORDERED, F_s_UNORDERED_ordinal, F_s_FIFO_ordinal, F_s_UNORDERED_perPairOrder, S_COMPACT_STRINGS, hne_s_COMPACT_STRINGS_0, S_high, S_cache, E_s_cache, A_cache, Z_cache, H_cache, ne_UF⟩ := id G
  have N0 := Fr.nil Z.heap.size
  have K0 : Keep h0 h0 [] := Keep.refl _ _
  refine Go.of (T' := T0) (f' := (mkF m 1 #[.val (.ref oa), .val (.ref om)] [(.ref oa)])) (fun _ k => XS.aloadN X0.here hx rfl (hb hby d_jdk_31_method_11_code_0) rfl rfl k) ?_
  refine Go.of (T' := T0) (f' := (mkF m 13 #[.val (.ref oa), .val (.ref om)] [])) (fun _ k => XS.ifnonnullYes X0.here hx rfl (pc0 := 1) (pc' := 13) rfl (hb hby d_jdk_31_method_11_code_1) rfl (by decide) (by decide) k) ?_
  refine Go.of (T' := T0) (f' := (mkF m 14 #[.val (.ref oa), .val (.ref om)] [(.ref oa)])) (fun _ k => XS.aloadN X0.here hx rfl (hb hby d_jdk_31_method_11_code_13) rfl rfl k) ?_
  exact Go.retA X0 hx hlk hret rfl rfl (hb hby d_jdk_31_method_11_code_14) (by decide) (by decide) (by rw [e0]; exact ⟨rfl, rfl, by simp⟩)
theorem d_prog_25_method_1_code_0 : decode prog_25_method_1_code 0 = .ok (.aload_n 0, 1) := by decide +kernel
theorem d_prog_25_method_1_code_1 : decode prog_25_method_1_code 1 = .ok (.invokespecial 1, 3) := by decide +kernel
theorem d_prog_25_method_1_code_4 : decode prog_25_method_1_code 4 = .ok (.aload_n 1, 1) := by decide +kernel
theorem d_prog_25_method_1_code_5 : decode prog_25_method_1_code 5 = .ok (.ldc 7, 2) := by decide +kernel
theorem d_prog_25_method_1_code_7 : decode prog_25_method_1_code 7 = .ok (.invokestatic 9, 3) := by decide +kernel
theorem pd__Ljava_lang_Object_Ljava_lang_String__Ljava_lang_Object_ : parseMethodDescriptor "(Ljava/lang/Object;Ljava/lang/String;)Ljava/lang/Object;" = some ⟨[(.object "java/lang/Object"), (.object "java/lang/String")], some (.object "java/lang/Object")⟩ := by decide +kernel
theorem d_prog_25_method_1_code_10 : decode prog_25_method_1_code 10 = .ok (.pop, 1) := by decide +kernel
theorem d_prog_25_method_1_code_11 : decode prog_25_method_1_code 11 = .ok (.aload_n 2, 1) := by decide +kernel
theorem d_prog_25_method_1_code_12 : decode prog_25_method_1_code 12 = .ok (.ldc 15, 2) := by decide +kernel
theorem d_prog_25_method_1_code_14 : decode prog_25_method_1_code 14 = .ok (.invokestatic 9, 3) := by decide +kernel
theorem d_prog_25_method_1_code_17 : decode prog_25_method_1_code 17 = .ok (.pop, 1) := by decide +kernel
theorem d_prog_25_method_1_code_18 : decode prog_25_method_1_code 18 = .ok (.aload 4, 2) := by decide +kernel
theorem d_prog_25_method_1_code_20 : decode prog_25_method_1_code 20 = .ok (.ldc 17, 2) := by decide +kernel
theorem d_prog_25_method_1_code_22 : decode prog_25_method_1_code 22 = .ok (.invokestatic 9, 3) := by decide +kernel
theorem d_prog_25_method_1_code_25 : decode prog_25_method_1_code 25 = .ok (.pop, 1) := by decide +kernel
theorem d_prog_25_method_1_code_26 : decode prog_25_method_1_code 26 = .ok (.aload 5, 2) := by decide +kernel
theorem d_prog_25_method_1_code_28 : decode prog_25_method_1_code 28 = .ok (.ldc 19, 2) := by decide +kernel
theorem d_prog_25_method_1_code_30 : decode prog_25_method_1_code 30 = .ok (.invokestatic 9, 3) := by decide +kernel
theorem d_prog_25_method_1_code_33 : decode prog_25_method_1_code 33 = .ok (.pop, 1) := by decide +kernel
theorem d_prog_25_method_1_code_34 : decode prog_25_method_1_code 34 = .ok (.aload_n 0, 1) := by decide +kernel
theorem d_prog_25_method_1_code_35 : decode prog_25_method_1_code 35 = .ok (.aload_n 1, 1) := by decide +kernel
theorem d_prog_25_method_1_code_36 : decode prog_25_method_1_code 36 = .ok (.putfield 21, 3) := by decide +kernel
theorem d_prog_25_method_1_code_39 : decode prog_25_method_1_code 39 = .ok (.aload_n 0, 1) := by decide +kernel
theorem d_prog_25_method_1_code_40 : decode prog_25_method_1_code 40 = .ok (.aload_n 2, 1) := by decide +kernel
theorem d_prog_25_method_1_code_41 : decode prog_25_method_1_code 41 = .ok (.putfield 26, 3) := by decide +kernel
theorem d_prog_25_method_1_code_44 : decode prog_25_method_1_code 44 = .ok (.aload_n 0, 1) := by decide +kernel
theorem d_prog_25_method_1_code_45 : decode prog_25_method_1_code 45 = .ok (.iload_n 3, 1) := by decide +kernel
theorem d_prog_25_method_1_code_46 : decode prog_25_method_1_code 46 = .ok (.putfield 28, 3) := by decide +kernel
theorem d_prog_25_method_1_code_49 : decode prog_25_method_1_code 49 = .ok (.aload_n 0, 1) := by decide +kernel
theorem d_prog_25_method_1_code_50 : decode prog_25_method_1_code 50 = .ok (.aload 4, 2) := by decide +kernel
theorem d_prog_25_method_1_code_52 : decode prog_25_method_1_code 52 = .ok (.putfield 32, 3) := by decide +kernel
theorem d_prog_25_method_1_code_55 : decode prog_25_method_1_code 55 = .ok (.aload_n 0, 1) := by decide +kernel
theorem d_prog_25_method_1_code_56 : decode prog_25_method_1_code 56 = .ok (.aload 5, 2) := by decide +kernel
theorem d_prog_25_method_1_code_58 : decode prog_25_method_1_code 58 = .ok (.putfield 35, 3) := by decide +kernel
theorem d_prog_25_method_1_code_61 : decode prog_25_method_1_code 61 = .ok (.aload_n 0, 1) := by decide +kernel
theorem d_prog_25_method_1_code_62 : decode prog_25_method_1_code 62 = .ok (.iload 6, 2) := by decide +kernel
theorem d_prog_25_method_1_code_64 : decode prog_25_method_1_code 64 = .ok (.putfield 37, 3) := by decide +kernel
theorem d_prog_25_method_1_code_67 : decode prog_25_method_1_code 67 = .ok (.return_, 1) := by decide +kernel
theorem ef_rm_env0 (m : MethodId) (ob : Addr) (a1 : Addr) (a2 : Addr) (p3 : Int32) (a4 : Addr) (a5 : Addr) : entryFrame m #[(.ref ob), (.ref a1), (.ref a2), (.int p3), (.ref a4), (.ref a5), (.int (0 : Int32))] 7 = mkF m 0 #[.val (.ref ob), .val (.ref a1), .val (.ref a2), .val (.int p3), .val (.ref a4), .val (.ref a5), .val (.int (0 : Int32))] [] := by first | (simp [entryFrame, mkF, argsToLocals, Value.category]; done) | rfl
theorem pn_com_example_mailroom_mailroom_core_Envelope__init___Ljava_lang_String_Ljava_lang_String_ILjava_lang_Object_Ljava_lang_String_Z_V : plainFor (⟨"com/example/mailroom/mailroom/core/Envelope", "<init>", "(Ljava/lang/String;Ljava/lang/String;ILjava/lang/Object;Ljava/lang/String;Z)V"⟩ : MethodName) = true := by first | exact plainFor_of_name (by first | (simp [plainName, overriddenIn]; done) | decide +kernel) | decide +kernel
set_option maxRecDepth 65536 in
set_option maxHeartbeats 40000000 in
theorem rm_env0 {l : Launch} {Z : State} {a0 : Array Value} {s_FIFO : Addr} {s_UNORDERED : Addr} {s_COMPACT_STRINGS : Int32} {s_cache : Addr} {cl_s_cache : Cell} (hw : ∀ d ∈ tables_1, d.before a0 Z = true) (G : own_Ctx Z s_FIFO s_UNORDERED s_COMPACT_STRINGS s_cache cl_s_cache) (ob : Addr) (a1 : Addr) (a2 : Addr) (p3 : Int32) (a4 : Addr) (a5 : Addr)  (h0 : Heap) (O0 : Ext Z.heap h0) (prem0 : Exa Z h0 ob "com/example/mailroom/mailroom/core/Envelope") (prem1 : Fld Z h0 ob "com/example/mailroom/mailroom/core/Envelope" "sender" "Ljava/lang/String;" .null) (prem2 : Fld Z h0 ob "com/example/mailroom/mailroom/core/Envelope" "receiver" "Ljava/lang/String;" .null) (prem3 : Fld Z h0 ob "com/example/mailroom/mailroom/core/Envelope" "number" "I" (.int (0 : Int32))) (prem4 : Fld Z h0 ob "com/example/mailroom/mailroom/core/Envelope" "message" "Ljava/lang/Object;" .null) (prem5 : Fld Z h0 ob "com/example/mailroom/mailroom/core/Envelope" "replyTo" "Ljava/lang/String;" .null) (prem6 : Fld Z h0 ob "com/example/mailroom/mailroom/core/Envelope" "scheduled" "Z" (.int (0 : Int32))) (prem7 : Z.heap.size ≤ ob) :
    OkS l Z own_EL (⟨"com/example/mailroom/mailroom/core/Envelope", "<init>", "(Ljava/lang/String;Ljava/lang/String;ILjava/lang/Object;Ljava/lang/String;Z)V"⟩ : MethodName) prog_25_method_1_code 7 none ({ frames := 2, cells := 8, slots := 128, locals := 24 } : Room) #[(.ref ob), (.ref a1), (.ref a2), (.int p3), (.ref a4), (.ref a5), (.int (0 : Int32))] h0
      (fun v h L => v = none ∧ (Fr Z.heap.size L) ∧ (Keep h0 h [ob]) ∧ (Fld Z h ob "com/example/mailroom/mailroom/core/Envelope" "scheduled" "Z" (.int (0 : Int32)))) := by
  refine OkS.mk pn_com_example_mailroom_mailroom_core_Envelope__init___Ljava_lang_String_Ljava_lang_String_ILjava_lang_Object_Ljava_lang_String_Z_V ?_
  intro p e s m below meth c T0 hx hby hml hown hnm hret hlk hZ e0 C0 hS X0
  have hk := Nat.zero_le h0.size
  have hEL := own_EW hw
  refine GoS.cast (ef_rm_env0 m ob a1 a2 p3 a4 a5) ?_
  obtain ⟨S_FIFO, E_s_FIFO, F_s_FIFO_perPairOrder, S_UNORDERED, E_s_UNORDERED, F_s_UNORDERED_ordinal, F_s_FIFO_ordinal, F_s_UNORDERED_perPairOrder, S_COMPACT_STRINGS, hne_s_COMPACT_STRINGS_0, S_high, S_cache, E_s_cache, A_cache, Z_cache, H_cache, ne_UF⟩ := id G
  have N0 := Fr.nil Z.heap.size
  have K0 : Keep h0 h0 [ob] := Keep.refl _ _
  refine GoS.of (T' := T0) (f' := (mkF m 1 #[.val (.ref ob), .val (.ref a1), .val (.ref a2), .val (.int p3), .val (.ref a4), .val (.ref a5), .val (.int (0 : Int32))] [(.ref ob)])) (fun _ k => XS.aloadN X0.here hx rfl (hb hby d_prog_25_method_1_code_0) rfl rfl k) ?_
  obtain ⟨T57, v57, L57, X57, q57, st57⟩ := callNew X0 hx hZ (y := (⟨"java/lang/Record", "<init>", "()V"⟩ : MethodName)) rfl hown (hw _ (List.mem_of_getElem? (i := 46) rfl)) (hw _ (List.mem_of_getElem? (i := 47) rfl)) (hw _ (List.mem_of_getElem? (i := 49) rfl)) (hw _ (List.mem_of_getElem? (i := 50) rfl)) (by decide) (rm_rec hw G ob  h0 O0 ) e0 (W := 0) (by decide) (by decide) (by decide) (by decide) (g := (mkF m 1 #[.val (.ref ob), .val (.ref a1), .val (.ref a2), .val (.int p3), .val (.ref a4), .val (.ref a5), .val (.int (0 : Int32))] [(.ref ob)])) rfl (by rw [hml]; rfl) (a := ob) (argsL := []) (rest := []) (lenOf pd___V rfl) rfl rfl (by show 2 * 0 + _ ≤ _; exact Nat.le_of_eq rfl) (hb hby d_prog_25_method_1_code_1)
  obtain ⟨rfl, e57, rfl⟩ := q57
  have N57 := Fr.app N0 (Fr.nil _)
  refine GoS.of (T' := T57) (f' := (mkF m 4 #[.val (.ref ob), .val (.ref a1), .val (.ref a2), .val (.int p3), .val (.ref a4), .val (.ref a5), .val (.int (0 : Int32))] [])) (fun _ k => st57 _ k) ?_
  refine GoS.of (T' := T57) (f' := (mkF m 5 #[.val (.ref ob), .val (.ref a1), .val (.ref a2), .val (.int p3), .val (.ref a4), .val (.ref a5), .val (.int (0 : Int32))] [(.ref a1)])) (fun _ k => XS.aloadN X57.here hx rfl (hb hby d_prog_25_method_1_code_4) rfl rfl k) ?_
  obtain ⟨c58, T58, h58, k158, X58, e58, E58, hS, hk58, hZ, hown, Cq58, -, st58⟩ := ldcOH X57 hx hZ hown (hw _ (List.mem_of_getElem? (i := 52) rfl)) (own_wS hw) e57 hS hk hEL C0.1 (g := (mkF m 5 #[.val (.ref ob), .val (.ref a1), .val (.ref a2), .val (.int p3), .val (.ref a4), .val (.ref a5), .val (.int (0 : Int32))] [(.ref a1)])) rfl (hb hby d_prog_25_method_1_code_5) (n := 24) (by decide +kernel) (by decide) (by decide) (by decide)
  have O58 := Old0.ext O0 E58
  have K58 := Keep.ext K0 E58
  have C58 := CHr.trans C0 Cq58
  have hk := hk58
  refine GoS.of (T' := T58) (f' := (mkF m 7 #[.val (.ref ob), .val (.ref a1), .val (.ref a2), .val (.int p3), .val (.ref a4), .val (.ref a5), .val (.int (0 : Int32))] [(.ref c58), (.ref a1)])) (fun _ k => st58 _ k) ?_
  obtain ⟨T59, v59, L59, X59, q59, st59⟩ := callSt X58 hx hZ (y := (⟨"java/util/Objects", "requireNonNull", "(Ljava/lang/Object;Ljava/lang/String;)Ljava/lang/Object;"⟩ : MethodName)) hown (hw _ (List.mem_of_getElem? (i := 55) rfl)) (hw _ (List.mem_of_getElem? (i := 56) rfl)) (hw _ (List.mem_of_getElem? (i := 57) rfl)) (hw _ (List.mem_of_getElem? (i := 58) rfl)) (by decide) (rm_rnn hw G a1 c58  h58 O58 ) e58 (W := 0) (by decide) (by decide) (by decide) (by decide) (g := (mkF m 7 #[.val (.ref ob), .val (.ref a1), .val (.ref a2), .val (.int p3), .val (.ref a4), .val (.ref a5), .val (.int (0 : Int32))] [(.ref c58), (.ref a1)])) rfl (by rw [hml]; rfl) (argsL := [(.ref a1), (.ref c58)]) (rest := []) (lenOf pd__Ljava_lang_Object_Ljava_lang_String__Ljava_lang_Object_ rfl) rfl rfl (by show 2 * 0 + _ ≤ _; exact Nat.le_of_eq rfl) (hb hby d_prog_25_method_1_code_7)
  obtain ⟨rfl, e59, rfl⟩ := q59
  have N59 := Fr.app N57 (Fr.nil _)
  refine GoS.of (T' := T59) (f' := (mkF m 10 #[.val (.ref ob), .val (.ref a1), .val (.ref a2), .val (.int p3), .val (.ref a4), .val (.ref a5), .val (.int (0 : Int32))] [(.ref a1)])) (fun _ k => st59 _ k) ?_
  refine GoS.of (T' := T59) (f' := (mkF m 11 #[.val (.ref ob), .val (.ref a1), .val (.ref a2), .val (.int p3), .val (.ref a4), .val (.ref a5), .val (.int (0 : Int32))] [])) (fun _ k => XT.pop X59.here hx rfl (hb hby d_prog_25_method_1_code_10) rfl rfl k) ?_
  refine GoS.of (T' := T59) (f' := (mkF m 12 #[.val (.ref ob), .val (.ref a1), .val (.ref a2), .val (.int p3), .val (.ref a4), .val (.ref a5), .val (.int (0 : Int32))] [(.ref a2)])) (fun _ k => XS.aloadN X59.here hx rfl (hb hby d_prog_25_method_1_code_11) rfl rfl k) ?_
  obtain ⟨c60, T60, h60, k160, X60, e60, E60, hS, hk60, hZ, hown, Cq60, -, st60⟩ := ldcOH X59 hx hZ hown (hw _ (List.mem_of_getElem? (i := 59) rfl)) (own_wS hw) e59 hS hk hEL C58.1 (g := (mkF m 12 #[.val (.ref ob), .val (.ref a1), .val (.ref a2), .val (.int p3), .val (.ref a4), .val (.ref a5), .val (.int (0 : Int32))] [(.ref a2)])) rfl (hb hby d_prog_25_method_1_code_12) (n := 32) (by decide +kernel) (by decide) (by decide) (by decide)
  have O60 := Old0.ext O58 E60
  have K60 := Keep.ext K58 E60
  have C60 := CHr.trans C58 Cq60
  have hk := hk60
  refine GoS.of (T' := T60) (f' := (mkF m 14 #[.val (.ref ob), .val (.ref a1), .val (.ref a2), .val (.int p3), .val (.ref a4), .val (.ref a5), .val (.int (0 : Int32))] [(.ref c60), (.ref a2)])) (fun _ k => st60 _ k) ?_
  obtain ⟨T61, v61, L61, X61, q61, st61⟩ := callSt X60 hx hZ (y := (⟨"java/util/Objects", "requireNonNull", "(Ljava/lang/Object;Ljava/lang/String;)Ljava/lang/Object;"⟩ : MethodName)) hown (hw _ (List.mem_of_getElem? (i := 55) rfl)) (hw _ (List.mem_of_getElem? (i := 56) rfl)) (hw _ (List.mem_of_getElem? (i := 57) rfl)) (hw _ (List.mem_of_getElem? (i := 58) rfl)) (by decide) (rm_rnn hw G a2 c60  h60 O60 ) e60 (W := 0) (by decide) (by decide) (by decide) (by decide) (g := (mkF m 14 #[.val (.ref ob), .val (.ref a1), .val (.ref a2), .val (.int p3), .val (.ref a4), .val (.ref a5), .val (.int (0 : Int32))] [(.ref c60), (.ref a2)])) rfl (by rw [hml]; rfl) (argsL := [(.ref a2), (.ref c60)]) (rest := []) (lenOf pd__Ljava_lang_Object_Ljava_lang_String__Ljava_lang_Object_ rfl) rfl rfl (by show 2 * 0 + _ ≤ _; exact Nat.le_of_eq rfl) (hb hby d_prog_25_method_1_code_14)
  obtain ⟨rfl, e61, rfl⟩ := q61
  have N61 := Fr.app N59 (Fr.nil _)
  refine GoS.of (T' := T61) (f' := (mkF m 17 #[.val (.ref ob), .val (.ref a1), .val (.ref a2), .val (.int p3), .val (.ref a4), .val (.ref a5), .val (.int (0 : Int32))] [(.ref a2)])) (fun _ k => st61 _ k) ?_
  refine GoS.of (T' := T61) (f' := (mkF m 18 #[.val (.ref ob), .val (.ref a1), .val (.ref a2), .val (.int p3), .val (.ref a4), .val (.ref a5), .val (.int (0 : Int32))] [])) (fun _ k => XT.pop X61.here hx rfl (hb hby d_prog_25_method_1_code_17) rfl rfl k) ?_
  refine GoS.of (T' := T61) (f' := (mkF m 20 #[.val (.ref ob), .val (.ref a1), .val (.ref a2), .val (.int p3), .val (.ref a4), .val (.ref a5), .val (.int (0 : Int32))] [(.ref a4)])) (fun _ k => XS.aload X61.here hx rfl (hb hby d_prog_25_method_1_code_18) rfl rfl k) ?_
  obtain ⟨c62, T62, h62, k162, X62, e62, E62, hS, hk62, hZ, hown, Cq62, -, st62⟩ := ldcOH X61 hx hZ hown (hw _ (List.mem_of_getElem? (i := 60) rfl)) (own_wS hw) e61 hS hk hEL C60.1 (g := (mkF m 20 #[.val (.ref ob), .val (.ref a1), .val (.ref a2), .val (.int p3), .val (.ref a4), .val (.ref a5), .val (.int (0 : Int32))] [(.ref a4)])) rfl (hb hby d_prog_25_method_1_code_20) (n := 28) (by decide +kernel) (by decide) (by decide) (by decide)
  have O62 := Old0.ext O60 E62
  have K62 := Keep.ext K60 E62
  have C62 := CHr.trans C60 Cq62
  have hk := hk62
  refine GoS.of (T' := T62) (f' := (mkF m 22 #[.val (.ref ob), .val (.ref a1), .val (.ref a2), .val (.int p3), .val (.ref a4), .val (.ref a5), .val (.int (0 : Int32))] [(.ref c62), (.ref a4)])) (fun _ k => st62 _ k) ?_
  obtain ⟨T63, v63, L63, X63, q63, st63⟩ := callSt X62 hx hZ (y := (⟨"java/util/Objects", "requireNonNull", "(Ljava/lang/Object;Ljava/lang/String;)Ljava/lang/Object;"⟩ : MethodName)) hown (hw _ (List.mem_of_getElem? (i := 55) rfl)) (hw _ (List.mem_of_getElem? (i := 56) rfl)) (hw _ (List.mem_of_getElem? (i := 57) rfl)) (hw _ (List.mem_of_getElem? (i := 58) rfl)) (by decide) (rm_rnn hw G a4 c62  h62 O62 ) e62 (W := 0) (by decide) (by decide) (by decide) (by decide) (g := (mkF m 22 #[.val (.ref ob), .val (.ref a1), .val (.ref a2), .val (.int p3), .val (.ref a4), .val (.ref a5), .val (.int (0 : Int32))] [(.ref c62), (.ref a4)])) rfl (by rw [hml]; rfl) (argsL := [(.ref a4), (.ref c62)]) (rest := []) (lenOf pd__Ljava_lang_Object_Ljava_lang_String__Ljava_lang_Object_ rfl) rfl rfl (by show 2 * 0 + _ ≤ _; exact Nat.le_of_eq rfl) (hb hby d_prog_25_method_1_code_22)
  obtain ⟨rfl, e63, rfl⟩ := q63
  have N63 := Fr.app N61 (Fr.nil _)
  refine GoS.of (T' := T63) (f' := (mkF m 25 #[.val (.ref ob), .val (.ref a1), .val (.ref a2), .val (.int p3), .val (.ref a4), .val (.ref a5), .val (.int (0 : Int32))] [(.ref a4)])) (fun _ k => st63 _ k) ?_
  refine GoS.of (T' := T63) (f' := (mkF m 26 #[.val (.ref ob), .val (.ref a1), .val (.ref a2), .val (.int p3), .val (.ref a4), .val (.ref a5), .val (.int (0 : Int32))] [])) (fun _ k => XT.pop X63.here hx rfl (hb hby d_prog_25_method_1_code_25) rfl rfl k) ?_
  refine GoS.of (T' := T63) (f' := (mkF m 28 #[.val (.ref ob), .val (.ref a1), .val (.ref a2), .val (.int p3), .val (.ref a4), .val (.ref a5), .val (.int (0 : Int32))] [(.ref a5)])) (fun _ k => XS.aload X63.here hx rfl (hb hby d_prog_25_method_1_code_26) rfl rfl k) ?_
  obtain ⟨c64, T64, h64, k164, X64, e64, E64, hS, hk64, hZ, hown, Cq64, -, st64⟩ := ldcOH X63 hx hZ hown (hw _ (List.mem_of_getElem? (i := 61) rfl)) (own_wS hw) e63 hS hk hEL C62.1 (g := (mkF m 28 #[.val (.ref ob), .val (.ref a1), .val (.ref a2), .val (.int p3), .val (.ref a4), .val (.ref a5), .val (.int (0 : Int32))] [(.ref a5)])) rfl (hb hby d_prog_25_method_1_code_28) (n := 28) (by decide +kernel) (by decide) (by decide) (by decide)
  have O64 := Old0.ext O62 E64
  have K64 := Keep.ext K62 E64
  have C64 := CHr.trans C62 Cq64
  have hk := hk64
  refine GoS.of (T' := T64) (f' := (mkF m 30 #[.val (.ref ob), .val (.ref a1), .val (.ref a2), .val (.int p3), .val (.ref a4), .val (.ref a5), .val (.int (0 : Int32))] [(.ref c64), (.ref a5)])) (fun _ k => st64 _ k) ?_
  obtain ⟨T65, v65, L65, X65, q65, st65⟩ := callSt X64 hx hZ (y := (⟨"java/util/Objects", "requireNonNull", "(Ljava/lang/Object;Ljava/lang/String;)Ljava/lang/Object;"⟩ : MethodName)) hown (hw _ (List.mem_of_getElem? (i := 55) rfl)) (hw _ (List.mem_of_getElem? (i := 56) rfl)) (hw _ (List.mem_of_getElem? (i := 57) rfl)) (hw _ (List.mem_of_getElem? (i := 58) rfl)) (by decide) (rm_rnn hw G a5 c64  h64 O64 ) e64 (W := 0) (by decide) (by decide) (by decide) (by decide) (g := (mkF m 30 #[.val (.ref ob), .val (.ref a1), .val (.ref a2), .val (.int p3), .val (.ref a4), .val (.ref a5), .val (.int (0 : Int32))] [(.ref c64), (.ref a5)])) rfl (by rw [hml]; rfl) (argsL := [(.ref a5), (.ref c64)]) (rest := []) (lenOf pd__Ljava_lang_Object_Ljava_lang_String__Ljava_lang_Object_ rfl) rfl rfl (by show 2 * 0 + _ ≤ _; exact Nat.le_of_eq rfl) (hb hby d_prog_25_method_1_code_30)
  obtain ⟨rfl, e65, rfl⟩ := q65
  have N65 := Fr.app N63 (Fr.nil _)
  refine GoS.of (T' := T65) (f' := (mkF m 33 #[.val (.ref ob), .val (.ref a1), .val (.ref a2), .val (.int p3), .val (.ref a4), .val (.ref a5), .val (.int (0 : Int32))] [(.ref a5)])) (fun _ k => st65 _ k) ?_
  refine GoS.of (T' := T65) (f' := (mkF m 34 #[.val (.ref ob), .val (.ref a1), .val (.ref a2), .val (.int p3), .val (.ref a4), .val (.ref a5), .val (.int (0 : Int32))] [])) (fun _ k => XT.pop X65.here hx rfl (hb hby d_prog_25_method_1_code_33) rfl rfl k) ?_
  refine GoS.of (T' := T65) (f' := (mkF m 35 #[.val (.ref ob), .val (.ref a1), .val (.ref a2), .val (.int p3), .val (.ref a4), .val (.ref a5), .val (.int (0 : Int32))] [(.ref ob)])) (fun _ k => XS.aloadN X65.here hx rfl (hb hby d_prog_25_method_1_code_34) rfl rfl k) ?_
  refine GoS.of (T' := T65) (f' := (mkF m 36 #[.val (.ref ob), .val (.ref a1), .val (.ref a2), .val (.int p3), .val (.ref a4), .val (.ref a5), .val (.int (0 : Int32))] [(.ref a1), (.ref ob)])) (fun _ k => XS.aloadN X65.here hx rfl (hb hby d_prog_25_method_1_code_35) rfl rfl k) ?_
  have f67 : Exa Z h64 ob "com/example/mailroom/mailroom/core/Envelope" := (Exa.ext E64 (Exa.ext E62 (Exa.ext E60 (Exa.ext E58 prem0))))
  have f68 : Fld Z h64 ob "com/example/mailroom/mailroom/core/Envelope" "sender" "Ljava/lang/String;" .null := (Fld.ext E64 (Fld.ext E62 (Fld.ext E60 (Fld.ext E58 prem1))))
  obtain ⟨T66, h66, X66, e66, W66, st66⟩ := putF X65 hx hZ hown (host := "") (Or.inl (hw _ (List.mem_of_getElem? (i := 62) rfl))) Via.refl e65 f68 f67 (Or.inr ⟨(hw _ (List.mem_of_getElem? (i := 63) rfl)), rfl, hnm⟩) (hw _ (List.mem_of_getElem? (i := 5) rfl)) (ty := (.object "java/lang/String")) (by decide) rfl rfl (g := (mkF m 36 #[.val (.ref ob), .val (.ref a1), .val (.ref a2), .val (.int p3), .val (.ref a4), .val (.ref a5), .val (.int (0 : Int32))] [(.ref a1), (.ref ob)])) rfl rfl (hb hby d_prog_25_method_1_code_36)
  have O70 := Old0.wr O64 W66 prem7
  have K70 := Keep.wr K64 W66 (Or.inl (List.mem_of_getElem? (i := 0) rfl))
  have C69 := CHr.trans C64 (CHr.wr W66 (Safe.exa hZ.alike f67 (by decide) (by decide)) C64.1)
  have hk := Nat.le_trans hk (Keep.of_wr W66).1
  have N66 := Fr.snoc X66 N65 prem7
  have f66 : Fld Z h66 ob "com/example/mailroom/mailroom/core/Envelope" "sender" "Ljava/lang/String;" (.ref a1) := Fld.same W66 f68
  refine GoS.of (T' := T66) (f' := (mkF m 39 #[.val (.ref ob), .val (.ref a1), .val (.ref a2), .val (.int p3), .val (.ref a4), .val (.ref a5), .val (.int (0 : Int32))] [])) (fun _ k => st66 _ k) ?_
  refine GoS.of (T' := T66) (f' := (mkF m 40 #[.val (.ref ob), .val (.ref a1), .val (.ref a2), .val (.int p3), .val (.ref a4), .val (.ref a5), .val (.int (0 : Int32))] [(.ref ob)])) (fun _ k => XS.aloadN X66.here hx rfl (hb hby d_prog_25_method_1_code_39) rfl rfl k) ?_
  refine GoS.of (T' := T66) (f' := (mkF m 41 #[.val (.ref ob), .val (.ref a1), .val (.ref a2), .val (.int p3), .val (.ref a4), .val (.ref a5), .val (.int (0 : Int32))] [(.ref a2), (.ref ob)])) (fun _ k => XS.aloadN X66.here hx rfl (hb hby d_prog_25_method_1_code_40) rfl rfl k) ?_
  have f72 : Exa Z h66 ob "com/example/mailroom/mailroom/core/Envelope" := (Exa.wr W66 f67)
  have f73 : Fld Z h66 ob "com/example/mailroom/mailroom/core/Envelope" "receiver" "Ljava/lang/String;" .null := (Fld.other W66 (Fld.ext E64 (Fld.ext E62 (Fld.ext E60 (Fld.ext E58 prem2)))) (Or.inr (slot_ne (Or.inr (hw _ (List.mem_of_getElem? (i := 65) rfl))) (Or.inr (hw _ (List.mem_of_getElem? (i := 63) rfl))) (by decide) (t := (.object "java/lang/String")) (t' := (.object "java/lang/String")) (by decide) (by decide))))
  obtain ⟨T71, h71, X71, e71, W71, st71⟩ := putF X66 hx hZ hown (host := "") (Or.inl (hw _ (List.mem_of_getElem? (i := 64) rfl))) Via.refl e66 f73 f72 (Or.inr ⟨(hw _ (List.mem_of_getElem? (i := 65) rfl)), rfl, hnm⟩) (hw _ (List.mem_of_getElem? (i := 5) rfl)) (ty := (.object "java/lang/String")) (by decide) rfl rfl (g := (mkF m 41 #[.val (.ref ob), .val (.ref a1), .val (.ref a2), .val (.int p3), .val (.ref a4), .val (.ref a5), .val (.int (0 : Int32))] [(.ref a2), (.ref ob)])) rfl rfl (hb hby d_prog_25_method_1_code_41)
  have O75 := Old0.wr O70 W71 prem7
  have K75 := Keep.wr K70 W71 (Or.inl (List.mem_of_getElem? (i := 0) rfl))
  have C74 := CHr.trans C69 (CHr.wr W71 (Safe.exa hZ.alike f72 (by decide) (by decide)) C69.1)
  have hk := Nat.le_trans hk (Keep.of_wr W71).1
  have N71 := Fr.snoc X71 N66 prem7
  have f71 : Fld Z h71 ob "com/example/mailroom/mailroom/core/Envelope" "receiver" "Ljava/lang/String;" (.ref a2) := Fld.same W71 f73
  refine GoS.of (T' := T71) (f' := (mkF m 44 #[.val (.ref ob), .val (.ref a1), .val (.ref a2), .val (.int p3), .val (.ref a4), .val (.ref a5), .val (.int (0 : Int32))] [])) (fun _ k => st71 _ k) ?_
  refine GoS.of (T' := T71) (f' := (mkF m 45 #[.val (.ref ob), .val (.ref a1), .val (.ref a2), .val (.int p3), .val (.ref a4), .val (.ref a5), .val (.int (0 : Int32))] [(.ref ob)])) (fun _ k => XS.aloadN X71.here hx rfl (hb hby d_prog_25_method_1_code_44) rfl rfl k) ?_
  refine GoS.of (T' := T71) (f' := (mkF m 46 #[.val (.ref ob), .val (.ref a1), .val (.ref a2), .val (.int p3), .val (.ref a4), .val (.ref a5), .val (.int (0 : Int32))] [(.int p3), (.ref ob)])) (fun _ k => XS.iloadN X71.here hx rfl (hb hby d_prog_25_method_1_code_45) rfl k) ?_
  have f77 : Exa Z h71 ob "com/example/mailroom/mailroom/core/Envelope" := (Exa.wr W71 f72)
  have f78 : Fld Z h71 ob "com/example/mailroom/mailroom/core/Envelope" "number" "I" (.int (0 : Int32)) := (Fld.other W71 (Fld.other W66 (Fld.ext E64 (Fld.ext E62 (Fld.ext E60 (Fld.ext E58 prem3)))) (Or.inr (slot_ne (Or.inr (hw _ (List.mem_of_getElem? (i := 67) rfl))) (Or.inr (hw _ (List.mem_of_getElem? (i := 63) rfl))) (by decide) (t := .int) (t' := (.object "java/lang/String")) (by decide) (by decide)))) (Or.inr (slot_ne (Or.inr (hw _ (List.mem_of_getElem? (i := 67) rfl))) (Or.inr (hw _ (List.mem_of_getElem? (i := 65) rfl))) (by decide) (t := .int) (t' := (.object "java/lang/String")) (by decide) (by decide))))
  obtain ⟨T76, h76, X76, e76, W76, st76⟩ := putF X71 hx hZ hown (host := "") (Or.inl (hw _ (List.mem_of_getElem? (i := 66) rfl))) Via.refl e71 f78 f77 (Or.inr ⟨(hw _ (List.mem_of_getElem? (i := 67) rfl)), rfl, hnm⟩) (hw _ (List.mem_of_getElem? (i := 5) rfl)) (ty := .int) (by decide) rfl rfl (g := (mkF m 46 #[.val (.ref ob), .val (.ref a1), .val (.ref a2), .val (.int p3), .val (.ref a4), .val (.ref a5), .val (.int (0 : Int32))] [(.int p3), (.ref ob)])) rfl rfl (hb hby d_prog_25_method_1_code_46)
  have O80 := Old0.wr O75 W76 prem7
  have K80 := Keep.wr K75 W76 (Or.inl (List.mem_of_getElem? (i := 0) rfl))
  have C79 := CHr.trans C74 (CHr.wr W76 (Safe.exa hZ.alike f77 (by decide) (by decide)) C74.1)
  have hk := Nat.le_trans hk (Keep.of_wr W76).1
  have N76 := Fr.snoc X76 N71 prem7
  have f76 : Fld Z h76 ob "com/example/mailroom/mailroom/core/Envelope" "number" "I" (.int p3) := Fld.same W76 f78
  refine GoS.of (T' := T76) (f' := (mkF m 49 #[.val (.ref ob), .val (.ref a1), .val (.ref a2), .val (.int p3), .val (.ref a4), .val (.ref a5), .val (.int (0 : Int32))] [])) (fun _ k => st76 _ k) ?_
  refine GoS.of (T' := T76) (f' := (mkF m 50 #[.val (.ref ob), .val (.ref a1), .val (.ref a2), .val (.int p3), .val (.ref a4), .val (.ref a5), .val (.int (0 : Int32))] [(.ref ob)])) (fun _ k => XS.aloadN X76.here hx rfl (hb hby d_prog_25_method_1_code_49) rfl rfl k) ?_
  refine GoS.of (T' := T76) (f' := (mkF m 52 #[.val (.ref ob), .val (.ref a1), .val (.ref a2), .val (.int p3), .val (.ref a4), .val (.ref a5), .val (.int (0 : Int32))] [(.ref a4), (.ref ob)])) (fun _ k => XS.aload X76.here hx rfl (hb hby d_prog_25_method_1_code_50) rfl rfl k) ?_
  have f82 : Exa Z h76 ob "com/example/mailroom/mailroom/core/Envelope" := (Exa.wr W76 f77)
  have f83 : Fld Z h76 ob "com/example/mailroom/mailroom/core/Envelope" "message" "Ljava/lang/Object;" .null := (Fld.other W76 (Fld.other W71 (Fld.other W66 (Fld.ext E64 (Fld.ext E62 (Fld.ext E60 (Fld.ext E58 prem4)))) (Or.inr (slot_ne (Or.inr (hw _ (List.mem_of_getElem? (i := 69) rfl))) (Or.inr (hw _ (List.mem_of_getElem? (i := 63) rfl))) (by decide) (t := (.object "java/lang/Object")) (t' := (.object "java/lang/String")) (by decide) (by decide)))) (Or.inr (slot_ne (Or.inr (hw _ (List.mem_of_getElem? (i := 69) rfl))) (Or.inr (hw _ (List.mem_of_getElem? (i := 65) rfl))) (by decide) (t := (.object "java/lang/Object")) (t' := (.object "java/lang/String")) (by decide) (by decide)))) (Or.inr (slot_ne (Or.inr (hw _ (List.mem_of_getElem? (i := 69) rfl))) (Or.inr (hw _ (List.mem_of_getElem? (i := 67) rfl))) (by decide) (t := (.object "java/lang/Object")) (t' := .int) (by decide) (by decide))))
  obtain ⟨T81, h81, X81, e81, W81, st81⟩ := putF X76 hx hZ hown (host := "") (Or.inl (hw _ (List.mem_of_getElem? (i := 68) rfl))) Via.refl e76 f83 f82 (Or.inr ⟨(hw _ (List.mem_of_getElem? (i := 69) rfl)), rfl, hnm⟩) (hw _ (List.mem_of_getElem? (i := 5) rfl)) (ty := (.object "java/lang/Object")) (by decide) rfl rfl (g := (mkF m 52 #[.val (.ref ob), .val (.ref a1), .val (.ref a2), .val (.int p3), .val (.ref a4), .val (.ref a5), .val (.int (0 : Int32))] [(.ref a4), (.ref ob)])) rfl rfl (hb hby d_prog_25_method_1_code_52)
  have O85 := Old0.wr O80 W81 prem7
  have K85 := Keep.wr K80 W81 (Or.inl (List.mem_of_getElem? (i := 0) rfl))
  have C84 := CHr.trans C79 (CHr.wr W81 (Safe.exa hZ.alike f82 (by decide) (by decide)) C79.1)
  have hk := Nat.le_trans hk (Keep.of_wr W81).1
  have N81 := Fr.snoc X81 N76 prem7
  have f81 : Fld Z h81 ob "com/example/mailroom/mailroom/core/Envelope" "message" "Ljava/lang/Object;" (.ref a4) := Fld.same W81 f83
  refine GoS.of (T' := T81) (f' := (mkF m 55 #[.val (.ref ob), .val (.ref a1), .val (.ref a2), .val (.int p3), .val (.ref a4), .val (.ref a5), .val (.int (0 : Int32))] [])) (fun _ k => st81 _ k) ?_
  refine GoS.of (T' := T81) (f' := (mkF m 56 #[.val (.ref ob), .val (.ref a1), .val (.ref a2), .val (.int p3), .val (.ref a4), .val (.ref a5), .val (.int (0 : Int32))] [(.ref ob)])) (fun _ k => XS.aloadN X81.here hx rfl (hb hby d_prog_25_method_1_code_55) rfl rfl k) ?_
  refine GoS.of (T' := T81) (f' := (mkF m 58 #[.val (.ref ob), .val (.ref a1), .val (.ref a2), .val (.int p3), .val (.ref a4), .val (.ref a5), .val (.int (0 : Int32))] [(.ref a5), (.ref ob)])) (fun _ k => XS.aload X81.here hx rfl (hb hby d_prog_25_method_1_code_56) rfl rfl k) ?_
  have f87 : Exa Z h81 ob "com/example/mailroom/mailroom/core/Envelope" := (Exa.wr W81 f82)
  have f88 : Fld Z h81 ob "com/example/mailroom/mailroom/core/Envelope" "replyTo" "Ljava/lang/String;" .null := (Fld.other W81 (Fld.other W76 (Fld.other W71 (Fld.other W66 (Fld.ext E64 (Fld.ext E62 (Fld.ext E60 (Fld.ext E58 prem5)))) (Or.inr (slot_ne (Or.inr (hw _ (List.mem_of_getElem? (i := 71) rfl))) (Or.inr (hw _ (List.mem_of_getElem? (i := 63) rfl))) (by decide) (t := (.object "java/lang/String")) (t' := (.object "java/lang/String")) (by decide) (by decide)))) (Or.inr (slot_ne (Or.inr (hw _ (List.mem_of_getElem? (i := 71) rfl))) (Or.inr (hw _ (List.mem_of_getElem? (i := 65) rfl))) (by decide) (t := (.object "java/lang/String")) (t' := (.object "java/lang/String")) (by decide) (by decide)))) (Or.inr (slot_ne (Or.inr (hw _ (List.mem_of_getElem? (i := 71) rfl))) (Or.inr (hw _ (List.mem_of_getElem? (i := 67) rfl))) (by decide) (t := (.object "java/lang/String")) (t' := .int) (by decide) (by decide)))) (Or.inr (slot_ne (Or.inr (hw _ (List.mem_of_getElem? (i := 71) rfl))) (Or.inr (hw _ (List.mem_of_getElem? (i := 69) rfl))) (by decide) (t := (.object "java/lang/String")) (t' := (.object "java/lang/Object")) (by decide) (by decide))))
  obtain ⟨T86, h86, X86, e86, W86, st86⟩ := putF X81 hx hZ hown (host := "") (Or.inl (hw _ (List.mem_of_getElem? (i := 70) rfl))) Via.refl e81 f88 f87 (Or.inr ⟨(hw _ (List.mem_of_getElem? (i := 71) rfl)), rfl, hnm⟩) (hw _ (List.mem_of_getElem? (i := 5) rfl)) (ty := (.object "java/lang/String")) (by decide) rfl rfl (g := (mkF m 58 #[.val (.ref ob), .val (.ref a1), .val (.ref a2), .val (.int p3), .val (.ref a4), .val (.ref a5), .val (.int (0 : Int32))] [(.ref a5), (.ref ob)])) rfl rfl (hb hby d_prog_25_method_1_code_58)
  have O90 := Old0.wr O85 W86 prem7
  have K90 := Keep.wr K85 W86 (Or.inl (List.mem_of_getElem? (i := 0) rfl))
  have C89 := CHr.trans C84 (CHr.wr W86 (Safe.exa hZ.alike f87 (by decide) (by decide)) C84.1)
  have hk := Nat.le_trans hk (Keep.of_wr W86).1
  have N86 := Fr.snoc X86 N81 prem7
  have f86 : Fld Z h86 ob "com/example/mailroom/mailroom/core/Envelope" "replyTo" "Ljava/lang/String;" (.ref a5) := Fld.same W86 f88
  refine GoS.of (T' := T86) (f' := (mkF m 61 #[.val (.ref ob), .val (.ref a1), .val (.ref a2), .val (.int p3), .val (.ref a4), .val (.ref a5), .val (.int (0 : Int32))] [])) (fun _ k => st86 _ k) ?_
  refine GoS.of (T' := T86) (f' := (mkF m 62 #[.val (.ref ob), .val (.ref a1), .val (.ref a2), .val (.int p3), .val (.ref a4), .val (.ref a5), .val (.int (0 : Int32))] [(.ref ob)])) (fun _ k => XS.aloadN X86.here hx rfl (hb hby d_prog_25_method_1_code_61) rfl rfl k) ?_
  refine GoS.of (T' := T86) (f' := (mkF m 64 #[.val (.ref ob), .val (.ref a1), .val (.ref a2), .val (.int p3), .val (.ref a4), .val (.ref a5), .val (.int (0 : Int32))] [(.int (0 : Int32)), (.ref ob)])) (fun _ k => XS.iload X86.here hx rfl (hb hby d_prog_25_method_1_code_62) rfl k) ?_
  have f92 : Exa Z h86 ob "com/example/mailroom/mailroom/core/Envelope" := (Exa.wr W86 f87)
  have f93 : Fld Z h86 ob "com/example/mailroom/mailroom/core/Envelope" "scheduled" "Z" (.int (0 : Int32)) := (Fld.other W86 (Fld.other W81 (Fld.other W76 (Fld.other W71 (Fld.other W66 (Fld.ext E64 (Fld.ext E62 (Fld.ext E60 (Fld.ext E58 prem6)))) (Or.inr (slot_ne (Or.inr (hw _ (List.mem_of_getElem? (i := 73) rfl))) (Or.inr (hw _ (List.mem_of_getElem? (i := 63) rfl))) (by decide) (t := .boolean) (t' := (.object "java/lang/String")) (by decide) (by decide)))) (Or.inr (slot_ne (Or.inr (hw _ (List.mem_of_getElem? (i := 73) rfl))) (Or.inr (hw _ (List.mem_of_getElem? (i := 65) rfl))) (by decide) (t := .boolean) (t' := (.object "java/lang/String")) (by decide) (by decide)))) (Or.inr (slot_ne (Or.inr (hw _ (List.mem_of_getElem? (i := 73) rfl))) (Or.inr (hw _ (List.mem_of_getElem? (i := 67) rfl))) (by decide) (t := .boolean) (t' := .int) (by decide) (by decide)))) (Or.inr (slot_ne (Or.inr (hw _ (List.mem_of_getElem? (i := 73) rfl))) (Or.inr (hw _ (List.mem_of_getElem? (i := 69) rfl))) (by decide) (t := .boolean) (t' := (.object "java/lang/Object")) (by decide) (by decide)))) (Or.inr (slot_ne (Or.inr (hw _ (List.mem_of_getElem? (i := 73) rfl))) (Or.inr (hw _ (List.mem_of_getElem? (i := 71) rfl))) (by decide) (t := .boolean) (t' := (.object "java/lang/String")) (by decide) (by decide))))
  obtain ⟨T91, h91, X91, e91, W91, st91⟩ := putFN X86 hx hZ hown (hw _ (List.mem_of_getElem? (i := 72) rfl)) Via.refl e86 f93 f92 (Or.inr ⟨(hw _ (List.mem_of_getElem? (i := 73) rfl)), rfl, hnm⟩) (hw _ (List.mem_of_getElem? (i := 5) rfl)) (ty := .boolean) (v' := (.int (0 : Int32))) (by decide) rfl rfl (g := (mkF m 64 #[.val (.ref ob), .val (.ref a1), .val (.ref a2), .val (.int p3), .val (.ref a4), .val (.ref a5), .val (.int (0 : Int32))] [(.int (0 : Int32)), (.ref ob)])) rfl rfl (hb hby d_prog_25_method_1_code_64)
  have O95 := Old0.wr O90 W91 prem7
  have K95 := Keep.wr K90 W91 (Or.inl (List.mem_of_getElem? (i := 0) rfl))
  have C94 := CHr.trans C89 (CHr.wr W91 (Safe.exa hZ.alike f92 (by decide) (by decide)) C89.1)
  have hk := Nat.le_trans hk (Keep.of_wr W91).1
  have N91 := Fr.snoc X91 N86 prem7
  have f91 : Fld Z h91 ob "com/example/mailroom/mailroom/core/Envelope" "scheduled" "Z" (.int (0 : Int32)) := Fld.same W91 f93
  refine GoS.of (T' := T91) (f' := (mkF m 67 #[.val (.ref ob), .val (.ref a1), .val (.ref a2), .val (.int p3), .val (.ref a4), .val (.ref a5), .val (.int (0 : Int32))] [])) (fun _ k => st91 _ k) ?_
  exact GoS.retV X91 hx hlk hS hk hZ hEL C94 e91 hret (hb hby d_prog_25_method_1_code_67) (by decide) (by decide) (by rw [e91]; exact ⟨rfl, N91, K95, f91⟩)
theorem d_prog_25_method_13_code_0 : decode prog_25_method_13_code 0 = .ok (.aload_n 0, 1) := by decide +kernel
theorem d_prog_25_method_13_code_1 : decode prog_25_method_13_code 1 = .ok (.getfield 37, 3) := by decide +kernel
theorem d_prog_25_method_13_code_4 : decode prog_25_method_13_code 4 = .ok (.ireturn, 1) := by decide +kernel
theorem ef_rm_sch0 (m : MethodId) (ob : Addr) : entryFrame m #[(.ref ob)] 1 = mkF m 0 #[.val (.ref ob)] [] := by first | (simp [entryFrame, mkF, argsToLocals, Value.category]; done) | rfl
theorem pn_com_example_mailroom_mailroom_core_Envelope_scheduled___Z : plainFor (⟨"com/example/mailroom/mailroom/core/Envelope", "scheduled", "()Z"⟩ : MethodName) = true := by first | exact plainFor_of_name (by first | (simp [plainName, overriddenIn]; done) | decide +kernel) | decide +kernel
set_option maxRecDepth 65536 in
set_option maxHeartbeats 40000000 in
theorem rm_sch0 {l : Launch} {Z : State} {a0 : Array Value} {s_FIFO : Addr} {s_UNORDERED : Addr} {s_COMPACT_STRINGS : Int32} {s_cache : Addr} {cl_s_cache : Cell} (hw : ∀ d ∈ tables_1, d.before a0 Z = true) (G : own_Ctx Z s_FIFO s_UNORDERED s_COMPACT_STRINGS s_cache cl_s_cache) (ob : Addr)  (h0 : Heap) (O0 : Ext Z.heap h0) (prem0 : Fld Z h0 ob "com/example/mailroom/mailroom/core/Envelope" "scheduled" "Z" (.int (0 : Int32))) :
    Ok l Z (⟨"com/example/mailroom/mailroom/core/Envelope", "scheduled", "()Z"⟩ : MethodName) prog_25_method_13_code 1 (some .boolean) ({ frames := 0, cells := 0, slots := 0, locals := 0 } : Room) #[(.ref ob)] h0
      (fun v h L => v = some (.int (0 : Int32)) ∧ (h = h0) ∧ (L = [])) := by
  refine Ok.mk pn_com_example_mailroom_mailroom_core_Envelope_scheduled___Z ?_
  intro p e s m below meth c T0 hx hby hml hown hnm hret hlk hZ e0 X0
  refine Go.cast (ef_rm_sch0 m ob) ?_
  obtain ⟨S_FIFO, E_s_FIFO, F_s_FIFO_perPairOrder, S_UNORDERED, E_s_UNORDERED, F_s_UNORDERED_ordinal, F_s_FIFO_ordinal, F_s_UNORDERED_perPairOrder, S_COMPACT_STRINGS, hne_s_COMPACT_STRINGS_0, S_high, S_cache, E_s_cache, A_cache, Z_cache, H_cache, ne_UF⟩ := id G
  have N0 := Fr.nil Z.heap.size
  have K0 : Keep h0 h0 [] := Keep.refl _ _
  refine Go.of (T' := T0) (f' := (mkF m 1 #[.val (.ref ob)] [(.ref ob)])) (fun _ k => XS.aloadN X0.here hx rfl (hb hby d_prog_25_method_13_code_0) rfl rfl k) ?_
  obtain ⟨T96, X96, e96, st96⟩ := getF X0 hx hZ hown (host := "") (Or.inl (hw _ (List.mem_of_getElem? (i := 72) rfl))) Via.refl e0 prem0 (g := (mkF m 1 #[.val (.ref ob)] [(.ref ob)])) rfl rfl (hb hby d_prog_25_method_13_code_1)
  refine Go.of (T' := T96) (f' := (mkF m 4 #[.val (.ref ob)] [(.int (0 : Int32))])) (fun _ k => st96 _ k) ?_
  exact Go.retB X96 hx hlk hret (by simp) (hb hby d_prog_25_method_13_code_4) (by decide) (by decide) (z' := (0 : Int32)) rfl (by rw [e96]; exact ⟨rfl, rfl, by simp⟩)
theorem d_prog_22_method_6_code_0 : decode prog_22_method_6_code 0 = .ok (.aload_n 0, 1) := by decide +kernel
theorem d_prog_22_method_6_code_1 : decode prog_22_method_6_code 1 = .ok (.getfield 33, 3) := by decide +kernel
theorem d_prog_22_method_6_code_4 : decode prog_22_method_6_code 4 = .ok (.ifCond .eq 14, 3) := by decide +kernel
theorem d_prog_22_method_6_code_7 : decode prog_22_method_6_code 7 = .ok (.aload_n 1, 1) := by decide +kernel
theorem d_prog_22_method_6_code_8 : decode prog_22_method_6_code 8 = .ok (.invokevirtual 76, 3) := by decide +kernel
theorem pd___Z : parseMethodDescriptor "()Z" = some ⟨[], some .boolean⟩ := by decide +kernel
theorem d_prog_22_method_6_code_11 : decode prog_22_method_6_code 11 = .ok (.ifCond .ne 7, 3) := by decide +kernel
theorem d_prog_22_method_6_code_14 : decode prog_22_method_6_code 14 = .ok (.iconst 1, 1) := by decide +kernel
theorem d_prog_22_method_6_code_15 : decode prog_22_method_6_code 15 = .ok (.goto 4, 3) := by decide +kernel
theorem d_prog_22_method_6_code_19 : decode prog_22_method_6_code 19 = .ok (.ireturn, 1) := by decide +kernel
theorem ef_rm_hold_FIFO0 (m : MethodId) (s_FIFO : Addr) (ob : Addr) : entryFrame m #[(.ref s_FIFO), (.ref ob)] 2 = mkF m 0 #[.val (.ref s_FIFO), .val (.ref ob)] [] := by first | (simp [entryFrame, mkF, argsToLocals, Value.category]; done) | rfl
theorem pn_com_example_mailroom_mailroom_core_Delivery_holdsBack__Lcom_example_mailroom_mailroom_core_Envelope__Z : plainFor (⟨"com/example/mailroom/mailroom/core/Delivery", "holdsBack", "(Lcom/example/mailroom/mailroom/core/Envelope;)Z"⟩ : MethodName) = true := by first | exact plainFor_of_name (by first | (simp [plainName, overriddenIn]; done) | decide +kernel) | decide +kernel
set_option maxRecDepth 65536 in
set_option maxHeartbeats 40000000 in
theorem rm_hold_FIFO0 {l : Launch} {Z : State} {a0 : Array Value} {s_FIFO : Addr} {s_UNORDERED : Addr} {s_COMPACT_STRINGS : Int32} {s_cache : Addr} {cl_s_cache : Cell} (hw : ∀ d ∈ tables_1, d.before a0 Z = true) (G : own_Ctx Z s_FIFO s_UNORDERED s_COMPACT_STRINGS s_cache cl_s_cache) (ob : Addr)  (h0 : Heap) (O0 : Ext Z.heap h0) (prem0 : Exa Z h0 ob "com/example/mailroom/mailroom/core/Envelope") (prem1 : Fld Z h0 ob "com/example/mailroom/mailroom/core/Envelope" "scheduled" "Z" (.int (0 : Int32))) :
    Ok l Z (⟨"com/example/mailroom/mailroom/core/Delivery", "holdsBack", "(Lcom/example/mailroom/mailroom/core/Envelope;)Z"⟩ : MethodName) prog_22_method_6_code 2 (some .boolean) ({ frames := 1, cells := 0, slots := 0, locals := 12 } : Room) #[(.ref s_FIFO), (.ref ob)] h0
      (fun v h L => v = some (.int (1 : Int32)) ∧ (h = h0) ∧ (L = [])) := by
  refine Ok.mk pn_com_example_mailroom_mailroom_core_Delivery_holdsBack__Lcom_example_mailroom_mailroom_core_Envelope__Z ?_
  intro p e s m below meth c T0 hx hby hml hown hnm hret hlk hZ e0 X0
  refine Go.cast (ef_rm_hold_FIFO0 m s_FIFO ob) ?_
  obtain ⟨S_FIFO, E_s_FIFO, F_s_FIFO_perPairOrder, S_UNORDERED, E_s_UNORDERED, F_s_UNORDERED_ordinal, F_s_FIFO_ordinal, F_s_UNORDERED_perPairOrder, S_COMPACT_STRINGS, hne_s_COMPACT_STRINGS_0, S_high, S_cache, E_s_cache, A_cache, Z_cache, H_cache, ne_UF⟩ := id G
  have N0 := Fr.nil Z.heap.size
  have K0 : Keep h0 h0 [] := Keep.refl _ _
  refine Go.of (T' := T0) (f' := (mkF m 1 #[.val (.ref s_FIFO), .val (.ref ob)] [(.ref s_FIFO)])) (fun _ k => XS.aloadN X0.here hx rfl (hb hby d_prog_22_method_6_code_0) rfl rfl k) ?_
  obtain ⟨T97, X97, e97, st97⟩ := getF X0 hx hZ hown (host := "") (Or.inl (hw _ (List.mem_of_getElem? (i := 79) rfl))) Via.refl e0 (Fld.ext O0 F_s_FIFO_perPairOrder) (g := (mkF m 1 #[.val (.ref s_FIFO), .val (.ref ob)] [(.ref s_FIFO)])) rfl rfl (hb hby d_prog_22_method_6_code_1)
  refine Go.of (T' := T97) (f' := (mkF m 4 #[.val (.ref s_FIFO), .val (.ref ob)] [(.int (1 : Int32))])) (fun _ k => st97 _ k) ?_
  refine Go.of (T' := T97) (f' := (mkF m 7 #[.val (.ref s_FIFO), .val (.ref ob)] [])) (fun _ k => XS.ifNo X97.here hx rfl (hb hby d_prog_22_method_6_code_4) rfl ((if0 _ _).trans (feq (by decide : ¬ ((1 : Int32) = (0 : Int32)))).1) k) ?_
  refine Go.of (T' := T97) (f' := (mkF m 8 #[.val (.ref s_FIFO), .val (.ref ob)] [(.ref ob)])) (fun _ k => XS.aloadN X97.here hx rfl (hb hby d_prog_22_method_6_code_7) rfl rfl k) ?_
  obtain ⟨T99, v99, L99, X99, q99, st99⟩ := callVi X97 hx hZ (y := (⟨"com/example/mailroom/mailroom/core/Envelope", "scheduled", "()Z"⟩ : MethodName)) (z := (⟨"com/example/mailroom/mailroom/core/Envelope", "scheduled", "()Z"⟩ : MethodName)) hown (hw _ (List.mem_of_getElem? (i := 81) rfl)) (hw _ (List.mem_of_getElem? (i := 82) rfl)) (notFace_of_selects (args := #[]) (mvT hZ (hw _ (List.mem_of_getElem? (i := 84) rfl)))) (hw _ (List.mem_of_getElem? (i := 84) rfl)) (hw _ (List.mem_of_getElem? (i := 83) rfl)) (hw _ (List.mem_of_getElem? (i := 85) rfl)) (hw _ (List.mem_of_getElem? (i := 6) rfl)) (by decide) (rm_sch0 hw G ob  h0 O0 prem1) e97 (W := 0) (by decide) (by decide) (by decide) (by decide) prem0 (g := (mkF m 8 #[.val (.ref s_FIFO), .val (.ref ob)] [(.ref ob)])) rfl (by rw [hml]; rfl) (argsL := []) (rest := []) (lenOf pd___Z rfl) rfl rfl (by show 2 * 0 + _ ≤ _; exact Nat.le_of_eq rfl) (hb hby d_prog_22_method_6_code_8)
  obtain ⟨rfl, e99, rfl⟩ := q99
  have N99 := Fr.app N0 (Fr.nil _)
  refine Go.of (T' := T99) (f' := (mkF m 11 #[.val (.ref s_FIFO), .val (.ref ob)] [(.int (0 : Int32))])) (fun _ k => st99 _ k) ?_
  refine Go.of (T' := T99) (f' := (mkF m 14 #[.val (.ref s_FIFO), .val (.ref ob)] [])) (fun _ k => XS.ifNo X99.here hx rfl (hb hby d_prog_22_method_6_code_11) rfl ((if0 _ _).trans (teq (by decide : (0 : Int32) = (0 : Int32))).2) k) ?_
  refine Go.of (T' := T99) (f' := (mkF m 15 #[.val (.ref s_FIFO), .val (.ref ob)] [(.int (1 : Int32))])) (fun _ k => XS.iconst X99.here hx rfl (hb hby d_prog_22_method_6_code_14) k) ?_
  refine Go.of (T' := T99) (f' := (mkF m 19 #[.val (.ref s_FIFO), .val (.ref ob)] [(.int (1 : Int32))])) (fun _ k => XS.goto X99.here hx rfl (pc0 := 15) (pc' := 19) rfl (hb hby d_prog_22_method_6_code_15) (by decide) (by decide) k) ?_
  exact Go.retB X99 hx hlk hret (by simp) (hb hby d_prog_22_method_6_code_19) (by decide) (by decide) (z' := (1 : Int32)) rfl (by rw [e99]; exact ⟨rfl, rfl, by simp⟩)
theorem d_prog_22_method_6_code_18 : decode prog_22_method_6_code 18 = .ok (.iconst 0, 1) := by decide +kernel
theorem ef_rm_hold_UNORDERED0 (m : MethodId) (s_UNORDERED : Addr) (ob : Addr) : entryFrame m #[(.ref s_UNORDERED), (.ref ob)] 2 = mkF m 0 #[.val (.ref s_UNORDERED), .val (.ref ob)] [] := by first | (simp [entryFrame, mkF, argsToLocals, Value.category]; done) | rfl
set_option maxRecDepth 65536 in
set_option maxHeartbeats 40000000 in
theorem rm_hold_UNORDERED0 {l : Launch} {Z : State} {a0 : Array Value} {s_FIFO : Addr} {s_UNORDERED : Addr} {s_COMPACT_STRINGS : Int32} {s_cache : Addr} {cl_s_cache : Cell} (hw : ∀ d ∈ tables_1, d.before a0 Z = true) (G : own_Ctx Z s_FIFO s_UNORDERED s_COMPACT_STRINGS s_cache cl_s_cache) (ob : Addr)  (h0 : Heap) (O0 : Ext Z.heap h0) (prem0 : Exa Z h0 ob "com/example/mailroom/mailroom/core/Envelope") (prem1 : Fld Z h0 ob "com/example/mailroom/mailroom/core/Envelope" "scheduled" "Z" (.int (0 : Int32))) :
    Ok l Z (⟨"com/example/mailroom/mailroom/core/Delivery", "holdsBack", "(Lcom/example/mailroom/mailroom/core/Envelope;)Z"⟩ : MethodName) prog_22_method_6_code 2 (some .boolean) ({ frames := 0, cells := 0, slots := 0, locals := 0 } : Room) #[(.ref s_UNORDERED), (.ref ob)] h0
      (fun v h L => v = some (.int (0 : Int32)) ∧ (h = h0) ∧ (L = [])) := by
  refine Ok.mk pn_com_example_mailroom_mailroom_core_Delivery_holdsBack__Lcom_example_mailroom_mailroom_core_Envelope__Z ?_
  intro p e s m below meth c T0 hx hby hml hown hnm hret hlk hZ e0 X0
  refine Go.cast (ef_rm_hold_UNORDERED0 m s_UNORDERED ob) ?_
  obtain ⟨S_FIFO, E_s_FIFO, F_s_FIFO_perPairOrder, S_UNORDERED, E_s_UNORDERED, F_s_UNORDERED_ordinal, F_s_FIFO_ordinal, F_s_UNORDERED_perPairOrder, S_COMPACT_STRINGS, hne_s_COMPACT_STRINGS_0, S_high, S_cache, E_s_cache, A_cache, Z_cache, H_cache, ne_UF⟩ := id G
  have N0 := Fr.nil Z.heap.size
  have K0 : Keep h0 h0 [] := Keep.refl _ _
  refine Go.of (T' := T0) (f' := (mkF m 1 #[.val (.ref s_UNORDERED), .val (.ref ob)] [(.ref s_UNORDERED)])) (fun _ k => XS.aloadN X0.here hx rfl (hb hby d_prog_22_method_6_code_0) rfl rfl k) ?_
  obtain ⟨T101, X101, e101, st101⟩ := getF X0 hx hZ hown (host := "") (Or.inl (hw _ (List.mem_of_getElem? (i := 79) rfl))) Via.refl e0 (Fld.ext O0 F_s_UNORDERED_perPairOrder) (g := (mkF m 1 #[.val (.ref s_UNORDERED), .val (.ref ob)] [(.ref s_UNORDERED)])) rfl rfl (hb hby d_prog_22_method_6_code_1)
  refine Go.of (T' := T101) (f' := (mkF m 4 #[.val (.ref s_UNORDERED), .val (.ref ob)] [(.int (0 : Int32))])) (fun _ k => st101 _ k) ?_
  refine Go.of (T' := T101) (f' := (mkF m 18 #[.val (.ref s_UNORDERED), .val (.ref ob)] [])) (fun _ k => XS.ifYes X101.here hx rfl (pc0 := 4) (pc' := 18) rfl (hb hby d_prog_22_method_6_code_4) rfl ((if0 _ _).trans (teq (by decide : (0 : Int32) = (0 : Int32))).1) (by decide) (by decide) k) ?_
  refine Go.of (T' := T101) (f' := (mkF m 19 #[.val (.ref s_UNORDERED), .val (.ref ob)] [(.int (0 : Int32))])) (fun _ k => XS.iconst X101.here hx rfl (hb hby d_prog_22_method_6_code_18) k) ?_
  exact Go.retB X101 hx hlk hret (by simp) (hb hby d_prog_22_method_6_code_19) (by decide) (by decide) (z' := (0 : Int32)) rfl (by rw [e101]; exact ⟨rfl, rfl, by simp⟩)
theorem ef_rm_env1 (m : MethodId) (ob : Addr) (a1 : Addr) (a2 : Addr) (p3 : Int32) (a4 : Addr) (a5 : Addr) : entryFrame m #[(.ref ob), (.ref a1), (.ref a2), (.int p3), (.ref a4), (.ref a5), (.int (1 : Int32))] 7 = mkF m 0 #[.val (.ref ob), .val (.ref a1), .val (.ref a2), .val (.int p3), .val (.ref a4), .val (.ref a5), .val (.int (1 : Int32))] [] := by first | (simp [entryFrame, mkF, argsToLocals, Value.category]; done) | rfl
set_option maxRecDepth 65536 in
set_option maxHeartbeats 40000000 in
theorem rm_env1 {l : Launch} {Z : State} {a0 : Array Value} {s_FIFO : Addr} {s_UNORDERED : Addr} {s_COMPACT_STRINGS : Int32} {s_cache : Addr} {cl_s_cache : Cell} (hw : ∀ d ∈ tables_1, d.before a0 Z = true) (G : own_Ctx Z s_FIFO s_UNORDERED s_COMPACT_STRINGS s_cache cl_s_cache) (ob : Addr) (a1 : Addr) (a2 : Addr) (p3 : Int32) (a4 : Addr) (a5 : Addr)  (h0 : Heap) (O0 : Ext Z.heap h0) (prem0 : Exa Z h0 ob "com/example/mailroom/mailroom/core/Envelope") (prem1 : Fld Z h0 ob "com/example/mailroom/mailroom/core/Envelope" "sender" "Ljava/lang/String;" .null) (prem2 : Fld Z h0 ob "com/example/mailroom/mailroom/core/Envelope" "receiver" "Ljava/lang/String;" .null) (prem3 : Fld Z h0 ob "com/example/mailroom/mailroom/core/Envelope" "number" "I" (.int (0 : Int32))) (prem4 : Fld Z h0 ob "com/example/mailroom/mailroom/core/Envelope" "message" "Ljava/lang/Object;" .null) (prem5 : Fld Z h0 ob "com/example/mailroom/mailroom/core/Envelope" "replyTo" "Ljava/lang/String;" .null) (prem6 : Fld Z h0 ob "com/example/mailroom/mailroom/core/Envelope" "scheduled" "Z" (.int (0 : Int32))) (prem7 : Z.heap.size ≤ ob) :
    OkS l Z own_EL (⟨"com/example/mailroom/mailroom/core/Envelope", "<init>", "(Ljava/lang/String;Ljava/lang/String;ILjava/lang/Object;Ljava/lang/String;Z)V"⟩ : MethodName) prog_25_method_1_code 7 none ({ frames := 2, cells := 8, slots := 128, locals := 24 } : Room) #[(.ref ob), (.ref a1), (.ref a2), (.int p3), (.ref a4), (.ref a5), (.int (1 : Int32))] h0
      (fun v h L => v = none ∧ (Fr Z.heap.size L) ∧ (Keep h0 h [ob]) ∧ (Fld Z h ob "com/example/mailroom/mailroom/core/Envelope" "scheduled" "Z" (.int (1 : Int32)))) := by
  refine OkS.mk pn_com_example_mailroom_mailroom_core_Envelope__init___Ljava_lang_String_Ljava_lang_String_ILjava_lang_Object_Ljava_lang_String_Z_V ?_
  intro p e s m below meth c T0 hx hby hml hown hnm hret hlk hZ e0 C0 hS X0
  have hk := Nat.zero_le h0.size
  have hEL := own_EW hw
  refine GoS.cast (ef_rm_env1 m ob a1 a2 p3 a4 a5) ?_
  obtain ⟨S_FIFO, E_s_FIFO, F_s_FIFO_perPairOrder, S_UNORDERED, E_s_UNORDERED, F_s_UNORDERED_ordinal, F_s_FIFO_ordinal, F_s_UNORDERED_perPairOrder, S_COMPACT_STRINGS, hne_s_COMPACT_STRINGS_0, S_high, S_cache, E_s_cache, A_cache, Z_cache, H_cache, ne_UF⟩ := id G
  have N0 := Fr.nil Z.heap.size
  have K0 : Keep h0 h0 [ob] := Keep.refl _ _
  refine GoS.of (T' := T0) (f' := (mkF m 1 #[.val (.ref ob), .val (.ref a1), .val (.ref a2), .val (.int p3), .val (.ref a4), .val (.ref a5), .val (.int (1 : Int32))] [(.ref ob)])) (fun _ k => XS.aloadN X0.here hx rfl (hb hby d_prog_25_method_1_code_0) rfl rfl k) ?_
  obtain ⟨T103, v103, L103, X103, q103, st103⟩ := callNew X0 hx hZ (y := (⟨"java/lang/Record", "<init>", "()V"⟩ : MethodName)) rfl hown (hw _ (List.mem_of_getElem? (i := 46) rfl)) (hw _ (List.mem_of_getElem? (i := 47) rfl)) (hw _ (List.mem_of_getElem? (i := 49) rfl)) (hw _ (List.mem_of_getElem? (i := 50) rfl)) (by decide) (rm_rec hw G ob  h0 O0 ) e0 (W := 0) (by decide) (by decide) (by decide) (by decide) (g := (mkF m 1 #[.val (.ref ob), .val (.ref a1), .val (.ref a2), .val (.int p3), .val (.ref a4), .val (.ref a5), .val (.int (1 : Int32))] [(.ref ob)])) rfl (by rw [hml]; rfl) (a := ob) (argsL := []) (rest := []) (lenOf pd___V rfl) rfl rfl (by show 2 * 0 + _ ≤ _; exact Nat.le_of_eq rfl) (hb hby d_prog_25_method_1_code_1)
  obtain ⟨rfl, e103, rfl⟩ := q103
  have N103 := Fr.app N0 (Fr.nil _)
  refine GoS.of (T' := T103) (f' := (mkF m 4 #[.val (.ref ob), .val (.ref a1), .val (.ref a2), .val (.int p3), .val (.ref a4), .val (.ref a5), .val (.int (1 : Int32))] [])) (fun _ k => st103 _ k) ?_
  refine GoS.of (T' := T103) (f' := (mkF m 5 #[.val (.ref ob), .val (.ref a1), .val (.ref a2), .val (.int p3), .val (.ref a4), .val (.ref a5), .val (.int (1 : Int32))] [(.ref a1)])) (fun _ k => XS.aloadN X103.here hx rfl (hb hby d_prog_25_method_1_code_4) rfl rfl k) ?_
  obtain ⟨c104, T104, h104, k1104, X104, e104, E104, hS, hk104, hZ, hown, Cq104, -, st104⟩ := ldcOH X103 hx hZ hown (hw _ (List.mem_of_getElem? (i := 52) rfl)) (own_wS hw) e103 hS hk hEL C0.1 (g := (mkF m 5 #[.val (.ref ob), .val (.ref a1), .val (.ref a2), .val (.int p3), .val (.ref a4), .val (.ref a5), .val (.int (1 : Int32))] [(.ref a1)])) rfl (hb hby d_prog_25_method_1_code_5) (n := 24) (by decide +kernel) (by decide) (by decide) (by decide)
  have O104 := Old0.ext O0 E104
  have K104 := Keep.ext K0 E104
  have C104 := CHr.trans C0 Cq104
  have hk := hk104
  refine GoS.of (T' := T104) (f' := (mkF m 7 #[.val (.ref ob), .val (.ref a1), .val (.ref a2), .val (.int p3), .val (.ref a4), .val (.ref a5), .val (.int (1 : Int32))] [(.ref c104), (.ref a1)])) (fun _ k => st104 _ k) ?_
  obtain ⟨T105, v105, L105, X105, q105, st105⟩ := callSt X104 hx hZ (y := (⟨"java/util/Objects", "requireNonNull", "(Ljava/lang/Object;Ljava/lang/String;)Ljava/lang/Object;"⟩ : MethodName)) hown (hw _ (List.mem_of_getElem? (i := 55) rfl)) (hw _ (List.mem_of_getElem? (i := 56) rfl)) (hw _ (List.mem_of_getElem? (i := 57) rfl)) (hw _ (List.mem_of_getElem? (i := 58) rfl)) (by decide) (rm_rnn hw G a1 c104  h104 O104 ) e104 (W := 0) (by decide) (by decide) (by decide) (by decide) (g := (mkF m 7 #[.val (.ref ob), .val (.ref a1), .val (.ref a2), .val (.int p3), .val (.ref a4), .val (.ref a5), .val (.int (1 : Int32))] [(.ref c104), (.ref a1)])) rfl (by rw [hml]; rfl) (argsL := [(.ref a1), (.ref c104)]) (rest := []) (lenOf pd__Ljava_lang_Object_Ljava_lang_String__Ljava_lang_Object_ rfl) rfl rfl (by show 2 * 0 + _ ≤ _; exact Nat.le_of_eq rfl) (hb hby d_prog_25_method_1_code_7)
  obtain ⟨rfl, e105, rfl⟩ := q105
  have N105 := Fr.app N103 (Fr.nil _)
  refine GoS.of (T' := T105) (f' := (mkF m 10 #[.val (.ref ob), .val (.ref a1), .val (.ref a2), .val (.int p3), .val (.ref a4), .val (.ref a5), .val (.int (1 : Int32))] [(.ref a1)])) (fun _ k => st105 _ k) ?_
  refine GoS.of (T' := T105) (f' := (mkF m 11 #[.val (.ref ob), .val (.ref a1), .val (.ref a2), .val (.int p3), .val (.ref a4), .val (.ref a5), .val (.int (1 : Int32))] [])) (fun _ k => XT.pop X105.here hx rfl (hb hby d_prog_25_method_1_code_10) rfl rfl k) ?_
  refine GoS.of (T' := T105) (f' := (mkF m 12 #[.val (.ref ob), .val (.ref a1), .val (.ref a2), .val (.int p3), .val (.ref a4), .val (.ref a5), .val (.int (1 : Int32))] [(.ref a2)])) (fun _ k => XS.aloadN X105.here hx rfl (hb hby d_prog_25_method_1_code_11) rfl rfl k) ?_
  obtain ⟨c106, T106, h106, k1106, X106, e106, E106, hS, hk106, hZ, hown, Cq106, -, st106⟩ := ldcOH X105 hx hZ hown (hw _ (List.mem_of_getElem? (i := 59) rfl)) (own_wS hw) e105 hS hk hEL C104.1 (g := (mkF m 12 #[.val (.ref ob), .val (.ref a1), .val (.ref a2), .val (.int p3), .val (.ref a4), .val (.ref a5), .val (.int (1 : Int32))] [(.ref a2)])) rfl (hb hby d_prog_25_method_1_code_12) (n := 32) (by decide +kernel) (by decide) (by decide) (by decide)
  have O106 := Old0.ext O104 E106
  have K106 := Keep.ext K104 E106
  have C106 := CHr.trans C104 Cq106
  have hk := hk106
  refine GoS.of (T' := T106) (f' := (mkF m 14 #[.val (.ref ob), .val (.ref a1), .val (.ref a2), .val (.int p3), .val (.ref a4), .val (.ref a5), .val (.int (1 : Int32))] [(.ref c106), (.ref a2)])) (fun _ k => st106 _ k) ?_
  obtain ⟨T107, v107, L107, X107, q107, st107⟩ := callSt X106 hx hZ (y := (⟨"java/util/Objects", "requireNonNull", "(Ljava/lang/Object;Ljava/lang/String;)Ljava/lang/Object;"⟩ : MethodName)) hown (hw _ (List.mem_of_getElem? (i := 55) rfl)) (hw _ (List.mem_of_getElem? (i := 56) rfl)) (hw _ (List.mem_of_getElem? (i := 57) rfl)) (hw _ (List.mem_of_getElem? (i := 58) rfl)) (by decide) (rm_rnn hw G a2 c106  h106 O106 ) e106 (W := 0) (by decide) (by decide) (by decide) (by decide) (g := (mkF m 14 #[.val (.ref ob), .val (.ref a1), .val (.ref a2), .val (.int p3), .val (.ref a4), .val (.ref a5), .val (.int (1 : Int32))] [(.ref c106), (.ref a2)])) rfl (by rw [hml]; rfl) (argsL := [(.ref a2), (.ref c106)]) (rest := []) (lenOf pd__Ljava_lang_Object_Ljava_lang_String__Ljava_lang_Object_ rfl) rfl rfl (by show 2 * 0 + _ ≤ _; exact Nat.le_of_eq rfl) (hb hby d_prog_25_method_1_code_14)
  obtain ⟨rfl, e107, rfl⟩ := q107
  have N107 := Fr.app N105 (Fr.nil _)
  refine GoS.of (T' := T107) (f' := (mkF m 17 #[.val (.ref ob), .val (.ref a1), .val (.ref a2), .val (.int p3), .val (.ref a4), .val (.ref a5), .val (.int (1 : Int32))] [(.ref a2)])) (fun _ k => st107 _ k) ?_
  refine GoS.of (T' := T107) (f' := (mkF m 18 #[.val (.ref ob), .val (.ref a1), .val (.ref a2), .val (.int p3), .val (.ref a4), .val (.ref a5), .val (.int (1 : Int32))] [])) (fun _ k => XT.pop X107.here hx rfl (hb hby d_prog_25_method_1_code_17) rfl rfl k) ?_
  refine GoS.of (T' := T107) (f' := (mkF m 20 #[.val (.ref ob), .val (.ref a1), .val (.ref a2), .val (.int p3), .val (.ref a4), .val (.ref a5), .val (.int (1 : Int32))] [(.ref a4)])) (fun _ k => XS.aload X107.here hx rfl (hb hby d_prog_25_method_1_code_18) rfl rfl k) ?_
  obtain ⟨c108, T108, h108, k1108, X108, e108, E108, hS, hk108, hZ, hown, Cq108, -, st108⟩ := ldcOH X107 hx hZ hown (hw _ (List.mem_of_getElem? (i := 60) rfl)) (own_wS hw) e107 hS hk hEL C106.1 (g := (mkF m 20 #[.val (.ref ob), .val (.ref a1), .val (.ref a2), .val (.int p3), .val (.ref a4), .val (.ref a5), .val (.int (1 : Int32))] [(.ref a4)])) rfl (hb hby d_prog_25_method_1_code_20) (n := 28) (by decide +kernel) (by decide) (by decide) (by decide)
  have O108 := Old0.ext O106 E108
  have K108 := Keep.ext K106 E108
  have C108 := CHr.trans C106 Cq108
  have hk := hk108
  refine GoS.of (T' := T108) (f' := (mkF m 22 #[.val (.ref ob), .val (.ref a1), .val (.ref a2), .val (.int p3), .val (.ref a4), .val (.ref a5), .val (.int (1 : Int32))] [(.ref c108), (.ref a4)])) (fun _ k => st108 _ k) ?_
  obtain ⟨T109, v109, L109, X109, q109, st109⟩ := callSt X108 hx hZ (y := (⟨"java/util/Objects", "requireNonNull", "(Ljava/lang/Object;Ljava/lang/String;)Ljava/lang/Object;"⟩ : MethodName)) hown (hw _ (List.mem_of_getElem? (i := 55) rfl)) (hw _ (List.mem_of_getElem? (i := 56) rfl)) (hw _ (List.mem_of_getElem? (i := 57) rfl)) (hw _ (List.mem_of_getElem? (i := 58) rfl)) (by decide) (rm_rnn hw G a4 c108  h108 O108 ) e108 (W := 0) (by decide) (by decide) (by decide) (by decide) (g := (mkF m 22 #[.val (.ref ob), .val (.ref a1), .val (.ref a2), .val (.int p3), .val (.ref a4), .val (.ref a5), .val (.int (1 : Int32))] [(.ref c108), (.ref a4)])) rfl (by rw [hml]; rfl) (argsL := [(.ref a4), (.ref c108)]) (rest := []) (lenOf pd__Ljava_lang_Object_Ljava_lang_String__Ljava_lang_Object_ rfl) rfl rfl (by show 2 * 0 + _ ≤ _; exact Nat.le_of_eq rfl) (hb hby d_prog_25_method_1_code_22)
  obtain ⟨rfl, e109, rfl⟩ := q109
  have N109 := Fr.app N107 (Fr.nil _)
  refine GoS.of (T' := T109) (f' := (mkF m 25 #[.val (.ref ob), .val (.ref a1), .val (.ref a2), .val (.int p3), .val (.ref a4), .val (.ref a5), .val (.int (1 : Int32))] [(.ref a4)])) (fun _ k => st109 _ k) ?_
  refine GoS.of (T' := T109) (f' := (mkF m 26 #[.val (.ref ob), .val (.ref a1), .val (.ref a2), .val (.int p3), .val (.ref a4), .val (.ref a5), .val (.int (1 : Int32))] [])) (fun _ k => XT.pop X109.here hx rfl (hb hby d_prog_25_method_1_code_25) rfl rfl k) ?_
  refine GoS.of (T' := T109) (f' := (mkF m 28 #[.val (.ref ob), .val (.ref a1), .val (.ref a2), .val (.int p3), .val (.ref a4), .val (.ref a5), .val (.int (1 : Int32))] [(.ref a5)])) (fun _ k => XS.aload X109.here hx rfl (hb hby d_prog_25_method_1_code_26) rfl rfl k) ?_
  obtain ⟨c110, T110, h110, k1110, X110, e110, E110, hS, hk110, hZ, hown, Cq110, -, st110⟩ := ldcOH X109 hx hZ hown (hw _ (List.mem_of_getElem? (i := 61) rfl)) (own_wS hw) e109 hS hk hEL C108.1 (g := (mkF m 28 #[.val (.ref ob), .val (.ref a1), .val (.ref a2), .val (.int p3), .val (.ref a4), .val (.ref a5), .val (.int (1 : Int32))] [(.ref a5)])) rfl (hb hby d_prog_25_method_1_code_28) (n := 28) (by decide +kernel) (by decide) (by decide) (by decide)
  have O110 := Old0.ext O108 E110
  have K110 := Keep.ext K108 E110
  have C110 := CHr.trans C108 Cq110
  have hk := hk110
  refine GoS.of (T' := T110) (f' := (mkF m 30 #[.val (.ref ob), .val (.ref a1), .val (.ref a2), .val (.int p3), .val (.ref a4), .val (.ref a5), .val (.int (1 : Int32))] [(.ref c110), (.ref a5)])) (fun _ k => st110 _ k) ?_
  obtain ⟨T111, v111, L111, X111, q111, st111⟩ := callSt X110 hx hZ (y := (⟨"java/util/Objects", "requireNonNull", "(Ljava/lang/Object;Ljava/lang/String;)Ljava/lang/Object;"⟩ : MethodName)) hown (hw _ (List.mem_of_getElem? (i := 55) rfl)) (hw _ (List.mem_of_getElem? (i := 56) rfl)) (hw _ (List.mem_of_getElem? (i := 57) rfl)) (hw _ (List.mem_of_getElem? (i := 58) rfl)) (by decide) (rm_rnn hw G a5 c110  h110 O110 ) e110 (W := 0) (by decide) (by decide) (by decide) (by decide) (g := (mkF m 30 #[.val (.ref ob), .val (.ref a1), .val (.ref a2), .val (.int p3), .val (.ref a4), .val (.ref a5), .val (.int (1 : Int32))] [(.ref c110), (.ref a5)])) rfl (by rw [hml]; rfl) (argsL := [(.ref a5), (.ref c110)]) (rest := []) (lenOf pd__Ljava_lang_Object_Ljava_lang_String__Ljava_lang_Object_ rfl) rfl rfl (by show 2 * 0 + _ ≤ _; exact Nat.le_of_eq rfl) (hb hby d_prog_25_method_1_code_30)
  obtain ⟨rfl, e111, rfl⟩ := q111
  have N111 := Fr.app N109 (Fr.nil _)
  refine GoS.of (T' := T111) (f' := (mkF m 33 #[.val (.ref ob), .val (.ref a1), .val (.ref a2), .val (.int p3), .val (.ref a4), .val (.ref a5), .val (.int (1 : Int32))] [(.ref a5)])) (fun _ k => st111 _ k) ?_
  refine GoS.of (T' := T111) (f' := (mkF m 34 #[.val (.ref ob), .val (.ref a1), .val (.ref a2), .val (.int p3), .val (.ref a4), .val (.ref a5), .val (.int (1 : Int32))] [])) (fun _ k => XT.pop X111.here hx rfl (hb hby d_prog_25_method_1_code_33) rfl rfl k) ?_
  refine GoS.of (T' := T111) (f' := (mkF m 35 #[.val (.ref ob), .val (.ref a1), .val (.ref a2), .val (.int p3), .val (.ref a4), .val (.ref a5), .val (.int (1 : Int32))] [(.ref ob)])) (fun _ k => XS.aloadN X111.here hx rfl (hb hby d_prog_25_method_1_code_34) rfl rfl k) ?_
  refine GoS.of (T' := T111) (f' := (mkF m 36 #[.val (.ref ob), .val (.ref a1), .val (.ref a2), .val (.int p3), .val (.ref a4), .val (.ref a5), .val (.int (1 : Int32))] [(.ref a1), (.ref ob)])) (fun _ k => XS.aloadN X111.here hx rfl (hb hby d_prog_25_method_1_code_35) rfl rfl k) ?_
  have f113 : Exa Z h110 ob "com/example/mailroom/mailroom/core/Envelope" := (Exa.ext E110 (Exa.ext E108 (Exa.ext E106 (Exa.ext E104 prem0))))
  have f114 : Fld Z h110 ob "com/example/mailroom/mailroom/core/Envelope" "sender" "Ljava/lang/String;" .null := (Fld.ext E110 (Fld.ext E108 (Fld.ext E106 (Fld.ext E104 prem1))))
  obtain ⟨T112, h112, X112, e112, W112, st112⟩ := putF X111 hx hZ hown (host := "") (Or.inl (hw _ (List.mem_of_getElem? (i := 62) rfl))) Via.refl e111 f114 f113 (Or.inr ⟨(hw _ (List.mem_of_getElem? (i := 63) rfl)), rfl, hnm⟩) (hw _ (List.mem_of_getElem? (i := 5) rfl)) (ty := (.object "java/lang/String")) (by decide) rfl rfl (g := (mkF m 36 #[.val (.ref ob), .val (.ref a1), .val (.ref a2), .val (.int p3), .val (.ref a4), .val (.ref a5), .val (.int (1 : Int32))] [(.ref a1), (.ref ob)])) rfl rfl (hb hby d_prog_25_method_1_code_36)
  have O116 := Old0.wr O110 W112 prem7
  have K116 := Keep.wr K110 W112 (Or.inl (List.mem_of_getElem? (i := 0) rfl))
  have C115 := CHr.trans C110 (CHr.wr W112 (Safe.exa hZ.alike f113 (by decide) (by decide)) C110.1)
  have hk := Nat.le_trans hk (Keep.of_wr W112).1
  have N112 := Fr.snoc X112 N111 prem7
  have f112 : Fld Z h112 ob "com/example/mailroom/mailroom/core/Envelope" "sender" "Ljava/lang/String;" (.ref a1) := Fld.same W112 f114
  refine GoS.of (T' := T112) (f' := (mkF m 39 #[.val (.ref ob), .val (.ref a1), .val (.ref a2), .val (.int p3), .val (.ref a4), .val (.ref a5), .val (.int (1 : Int32))] [])) (fun _ k => st112 _ k) ?_
  refine GoS.of (T' := T112) (f' := (mkF m 40 #[.val (.ref ob), .val (.ref a1), .val (.ref a2), .val (.int p3), .val (.ref a4), .val (.ref a5), .val (.int (1 : Int32))] [(.ref ob)])) (fun _ k => XS.aloadN X112.here hx rfl (hb hby d_prog_25_method_1_code_39) rfl rfl k) ?_
  refine GoS.of (T' := T112) (f' := (mkF m 41 #[.val (.ref ob), .val (.ref a1), .val (.ref a2), .val (.int p3), .val (.ref a4), .val (.ref a5), .val (.int (1 : Int32))] [(.ref a2), (.ref ob)])) (fun _ k => XS.aloadN X112.here hx rfl (hb hby d_prog_25_method_1_code_40) rfl rfl k) ?_
  have f118 : Exa Z h112 ob "com/example/mailroom/mailroom/core/Envelope" := (Exa.wr W112 f113)
  have f119 : Fld Z h112 ob "com/example/mailroom/mailroom/core/Envelope" "receiver" "Ljava/lang/String;" .null := (Fld.other W112 (Fld.ext E110 (Fld.ext E108 (Fld.ext E106 (Fld.ext E104 prem2)))) (Or.inr (slot_ne (Or.inr (hw _ (List.mem_of_getElem? (i := 65) rfl))) (Or.inr (hw _ (List.mem_of_getElem? (i := 63) rfl))) (by decide) (t := (.object "java/lang/String")) (t' := (.object "java/lang/String")) (by decide) (by decide))))
  obtain ⟨T117, h117, X117, e117, W117, st117⟩ := putF X112 hx hZ hown (host := "") (Or.inl (hw _ (List.mem_of_getElem? (i := 64) rfl))) Via.refl e112 f119 f118 (Or.inr ⟨(hw _ (List.mem_of_getElem? (i := 65) rfl)), rfl, hnm⟩) (hw _ (List.mem_of_getElem? (i := 5) rfl)) (ty := (.object "java/lang/String")) (by decide) rfl rfl (g := (mkF m 41 #[.val (.ref ob), .val (.ref a1), .val (.ref a2), .val (.int p3), .val (.ref a4), .val (.ref a5), .val (.int (1 : Int32))] [(.ref a2), (.ref ob)])) rfl rfl (hb hby d_prog_25_method_1_code_41)
  have O121 := Old0.wr O116 W117 prem7
  have K121 := Keep.wr K116 W117 (Or.inl (List.mem_of_getElem? (i := 0) rfl))
  have C120 := CHr.trans C115 (CHr.wr W117 (Safe.exa hZ.alike f118 (by decide) (by decide)) C115.1)
  have hk := Nat.le_trans hk (Keep.of_wr W117).1
  have N117 := Fr.snoc X117 N112 prem7
  have f117 : Fld Z h117 ob "com/example/mailroom/mailroom/core/Envelope" "receiver" "Ljava/lang/String;" (.ref a2) := Fld.same W117 f119
  refine GoS.of (T' := T117) (f' := (mkF m 44 #[.val (.ref ob), .val (.ref a1), .val (.ref a2), .val (.int p3), .val (.ref a4), .val (.ref a5), .val (.int (1 : Int32))] [])) (fun _ k => st117 _ k) ?_
  refine GoS.of (T' := T117) (f' := (mkF m 45 #[.val (.ref ob), .val (.ref a1), .val (.ref a2), .val (.int p3), .val (.ref a4), .val (.ref a5), .val (.int (1 : Int32))] [(.ref ob)])) (fun _ k => XS.aloadN X117.here hx rfl (hb hby d_prog_25_method_1_code_44) rfl rfl k) ?_
  refine GoS.of (T' := T117) (f' := (mkF m 46 #[.val (.ref ob), .val (.ref a1), .val (.ref a2), .val (.int p3), .val (.ref a4), .val (.ref a5), .val (.int (1 : Int32))] [(.int p3), (.ref ob)])) (fun _ k => XS.iloadN X117.here hx rfl (hb hby d_prog_25_method_1_code_45) rfl k) ?_
  have f123 : Exa Z h117 ob "com/example/mailroom/mailroom/core/Envelope" := (Exa.wr W117 f118)
  have f124 : Fld Z h117 ob "com/example/mailroom/mailroom/core/Envelope" "number" "I" (.int (0 : Int32)) := (Fld.other W117 (Fld.other W112 (Fld.ext E110 (Fld.ext E108 (Fld.ext E106 (Fld.ext E104 prem3)))) (Or.inr (slot_ne (Or.inr (hw _ (List.mem_of_getElem? (i := 67) rfl))) (Or.inr (hw _ (List.mem_of_getElem? (i := 63) rfl))) (by decide) (t := .int) (t' := (.object "java/lang/String")) (by decide) (by decide)))) (Or.inr (slot_ne (Or.inr (hw _ (List.mem_of_getElem? (i := 67) rfl))) (Or.inr (hw _ (List.mem_of_getElem? (i := 65) rfl))) (by decide) (t := .int) (t' := (.object "java/lang/String")) (by decide) (by decide))))
  obtain ⟨T122, h122, X122, e122, W122, st122⟩ := putF X117 hx hZ hown (host := "") (Or.inl (hw _ (List.mem_of_getElem? (i := 66) rfl))) Via.refl e117 f124 f123 (Or.inr ⟨(hw _ (List.mem_of_getElem? (i := 67) rfl)), rfl, hnm⟩) (hw _ (List.mem_of_getElem? (i := 5) rfl)) (ty := .int) (by decide) rfl rfl (g := (mkF m 46 #[.val (.ref ob), .val (.ref a1), .val (.ref a2), .val (.int p3), .val (.ref a4), .val (.ref a5), .val (.int (1 : Int32))] [(.int p3), (.ref ob)])) rfl rfl (hb hby d_prog_25_method_1_code_46)
  have O126 := Old0.wr O121 W122 prem7
  have K126 := Keep.wr K121 W122 (Or.inl (List.mem_of_getElem? (i := 0) rfl))
  have C125 := CHr.trans C120 (CHr.wr W122 (Safe.exa hZ.alike f123 (by decide) (by decide)) C120.1)
  have hk := Nat.le_trans hk (Keep.of_wr W122).1
  have N122 := Fr.snoc X122 N117 prem7
  have f122 : Fld Z h122 ob "com/example/mailroom/mailroom/core/Envelope" "number" "I" (.int p3) := Fld.same W122 f124
  refine GoS.of (T' := T122) (f' := (mkF m 49 #[.val (.ref ob), .val (.ref a1), .val (.ref a2), .val (.int p3), .val (.ref a4), .val (.ref a5), .val (.int (1 : Int32))] [])) (fun _ k => st122 _ k) ?_
  refine GoS.of (T' := T122) (f' := (mkF m 50 #[.val (.ref ob), .val (.ref a1), .val (.ref a2), .val (.int p3), .val (.ref a4), .val (.ref a5), .val (.int (1 : Int32))] [(.ref ob)])) (fun _ k => XS.aloadN X122.here hx rfl (hb hby d_prog_25_method_1_code_49) rfl rfl k) ?_
  refine GoS.of (T' := T122) (f' := (mkF m 52 #[.val (.ref ob), .val (.ref a1), .val (.ref a2), .val (.int p3), .val (.ref a4), .val (.ref a5), .val (.int (1 : Int32))] [(.ref a4), (.ref ob)])) (fun _ k => XS.aload X122.here hx rfl (hb hby d_prog_25_method_1_code_50) rfl rfl k) ?_
  have f128 : Exa Z h122 ob "com/example/mailroom/mailroom/core/Envelope" := (Exa.wr W122 f123)
  have f129 : Fld Z h122 ob "com/example/mailroom/mailroom/core/Envelope" "message" "Ljava/lang/Object;" .null := (Fld.other W122 (Fld.other W117 (Fld.other W112 (Fld.ext E110 (Fld.ext E108 (Fld.ext E106 (Fld.ext E104 prem4)))) (Or.inr (slot_ne (Or.inr (hw _ (List.mem_of_getElem? (i := 69) rfl))) (Or.inr (hw _ (List.mem_of_getElem? (i := 63) rfl))) (by decide) (t := (.object "java/lang/Object")) (t' := (.object "java/lang/String")) (by decide) (by decide)))) (Or.inr (slot_ne (Or.inr (hw _ (List.mem_of_getElem? (i := 69) rfl))) (Or.inr (hw _ (List.mem_of_getElem? (i := 65) rfl))) (by decide) (t := (.object "java/lang/Object")) (t' := (.object "java/lang/String")) (by decide) (by decide)))) (Or.inr (slot_ne (Or.inr (hw _ (List.mem_of_getElem? (i := 69) rfl))) (Or.inr (hw _ (List.mem_of_getElem? (i := 67) rfl))) (by decide) (t := (.object "java/lang/Object")) (t' := .int) (by decide) (by decide))))
  obtain ⟨T127, h127, X127, e127, W127, st127⟩ := putF X122 hx hZ hown (host := "") (Or.inl (hw _ (List.mem_of_getElem? (i := 68) rfl))) Via.refl e122 f129 f128 (Or.inr ⟨(hw _ (List.mem_of_getElem? (i := 69) rfl)), rfl, hnm⟩) (hw _ (List.mem_of_getElem? (i := 5) rfl)) (ty := (.object "java/lang/Object")) (by decide) rfl rfl (g := (mkF m 52 #[.val (.ref ob), .val (.ref a1), .val (.ref a2), .val (.int p3), .val (.ref a4), .val (.ref a5), .val (.int (1 : Int32))] [(.ref a4), (.ref ob)])) rfl rfl (hb hby d_prog_25_method_1_code_52)
  have O131 := Old0.wr O126 W127 prem7
  have K131 := Keep.wr K126 W127 (Or.inl (List.mem_of_getElem? (i := 0) rfl))
  have C130 := CHr.trans C125 (CHr.wr W127 (Safe.exa hZ.alike f128 (by decide) (by decide)) C125.1)
  have hk := Nat.le_trans hk (Keep.of_wr W127).1
  have N127 := Fr.snoc X127 N122 prem7
  have f127 : Fld Z h127 ob "com/example/mailroom/mailroom/core/Envelope" "message" "Ljava/lang/Object;" (.ref a4) := Fld.same W127 f129
  refine GoS.of (T' := T127) (f' := (mkF m 55 #[.val (.ref ob), .val (.ref a1), .val (.ref a2), .val (.int p3), .val (.ref a4), .val (.ref a5), .val (.int (1 : Int32))] [])) (fun _ k => st127 _ k) ?_
  refine GoS.of (T' := T127) (f' := (mkF m 56 #[.val (.ref ob), .val (.ref a1), .val (.ref a2), .val (.int p3), .val (.ref a4), .val (.ref a5), .val (.int (1 : Int32))] [(.ref ob)])) (fun _ k => XS.aloadN X127.here hx rfl (hb hby d_prog_25_method_1_code_55) rfl rfl k) ?_
  refine GoS.of (T' := T127) (f' := (mkF m 58 #[.val (.ref ob), .val (.ref a1), .val (.ref a2), .val (.int p3), .val (.ref a4), .val (.ref a5), .val (.int (1 : Int32))] [(.ref a5), (.ref ob)])) (fun _ k => XS.aload X127.here hx rfl (hb hby d_prog_25_method_1_code_56) rfl rfl k) ?_
  have f133 : Exa Z h127 ob "com/example/mailroom/mailroom/core/Envelope" := (Exa.wr W127 f128)
  have f134 : Fld Z h127 ob "com/example/mailroom/mailroom/core/Envelope" "replyTo" "Ljava/lang/String;" .null := (Fld.other W127 (Fld.other W122 (Fld.other W117 (Fld.other W112 (Fld.ext E110 (Fld.ext E108 (Fld.ext E106 (Fld.ext E104 prem5)))) (Or.inr (slot_ne (Or.inr (hw _ (List.mem_of_getElem? (i := 71) rfl))) (Or.inr (hw _ (List.mem_of_getElem? (i := 63) rfl))) (by decide) (t := (.object "java/lang/String")) (t' := (.object "java/lang/String")) (by decide) (by decide)))) (Or.inr (slot_ne (Or.inr (hw _ (List.mem_of_getElem? (i := 71) rfl))) (Or.inr (hw _ (List.mem_of_getElem? (i := 65) rfl))) (by decide) (t := (.object "java/lang/String")) (t' := (.object "java/lang/String")) (by decide) (by decide)))) (Or.inr (slot_ne (Or.inr (hw _ (List.mem_of_getElem? (i := 71) rfl))) (Or.inr (hw _ (List.mem_of_getElem? (i := 67) rfl))) (by decide) (t := (.object "java/lang/String")) (t' := .int) (by decide) (by decide)))) (Or.inr (slot_ne (Or.inr (hw _ (List.mem_of_getElem? (i := 71) rfl))) (Or.inr (hw _ (List.mem_of_getElem? (i := 69) rfl))) (by decide) (t := (.object "java/lang/String")) (t' := (.object "java/lang/Object")) (by decide) (by decide))))
  obtain ⟨T132, h132, X132, e132, W132, st132⟩ := putF X127 hx hZ hown (host := "") (Or.inl (hw _ (List.mem_of_getElem? (i := 70) rfl))) Via.refl e127 f134 f133 (Or.inr ⟨(hw _ (List.mem_of_getElem? (i := 71) rfl)), rfl, hnm⟩) (hw _ (List.mem_of_getElem? (i := 5) rfl)) (ty := (.object "java/lang/String")) (by decide) rfl rfl (g := (mkF m 58 #[.val (.ref ob), .val (.ref a1), .val (.ref a2), .val (.int p3), .val (.ref a4), .val (.ref a5), .val (.int (1 : Int32))] [(.ref a5), (.ref ob)])) rfl rfl (hb hby d_prog_25_method_1_code_58)
  have O136 := Old0.wr O131 W132 prem7
  have K136 := Keep.wr K131 W132 (Or.inl (List.mem_of_getElem? (i := 0) rfl))
  have C135 := CHr.trans C130 (CHr.wr W132 (Safe.exa hZ.alike f133 (by decide) (by decide)) C130.1)
  have hk := Nat.le_trans hk (Keep.of_wr W132).1
  have N132 := Fr.snoc X132 N127 prem7
  have f132 : Fld Z h132 ob "com/example/mailroom/mailroom/core/Envelope" "replyTo" "Ljava/lang/String;" (.ref a5) := Fld.same W132 f134
  refine GoS.of (T' := T132) (f' := (mkF m 61 #[.val (.ref ob), .val (.ref a1), .val (.ref a2), .val (.int p3), .val (.ref a4), .val (.ref a5), .val (.int (1 : Int32))] [])) (fun _ k => st132 _ k) ?_
  refine GoS.of (T' := T132) (f' := (mkF m 62 #[.val (.ref ob), .val (.ref a1), .val (.ref a2), .val (.int p3), .val (.ref a4), .val (.ref a5), .val (.int (1 : Int32))] [(.ref ob)])) (fun _ k => XS.aloadN X132.here hx rfl (hb hby d_prog_25_method_1_code_61) rfl rfl k) ?_
  refine GoS.of (T' := T132) (f' := (mkF m 64 #[.val (.ref ob), .val (.ref a1), .val (.ref a2), .val (.int p3), .val (.ref a4), .val (.ref a5), .val (.int (1 : Int32))] [(.int (1 : Int32)), (.ref ob)])) (fun _ k => XS.iload X132.here hx rfl (hb hby d_prog_25_method_1_code_62) rfl k) ?_
  have f138 : Exa Z h132 ob "com/example/mailroom/mailroom/core/Envelope" := (Exa.wr W132 f133)
  have f139 : Fld Z h132 ob "com/example/mailroom/mailroom/core/Envelope" "scheduled" "Z" (.int (0 : Int32)) := (Fld.other W132 (Fld.other W127 (Fld.other W122 (Fld.other W117 (Fld.other W112 (Fld.ext E110 (Fld.ext E108 (Fld.ext E106 (Fld.ext E104 prem6)))) (Or.inr (slot_ne (Or.inr (hw _ (List.mem_of_getElem? (i := 73) rfl))) (Or.inr (hw _ (List.mem_of_getElem? (i := 63) rfl))) (by decide) (t := .boolean) (t' := (.object "java/lang/String")) (by decide) (by decide)))) (Or.inr (slot_ne (Or.inr (hw _ (List.mem_of_getElem? (i := 73) rfl))) (Or.inr (hw _ (List.mem_of_getElem? (i := 65) rfl))) (by decide) (t := .boolean) (t' := (.object "java/lang/String")) (by decide) (by decide)))) (Or.inr (slot_ne (Or.inr (hw _ (List.mem_of_getElem? (i := 73) rfl))) (Or.inr (hw _ (List.mem_of_getElem? (i := 67) rfl))) (by decide) (t := .boolean) (t' := .int) (by decide) (by decide)))) (Or.inr (slot_ne (Or.inr (hw _ (List.mem_of_getElem? (i := 73) rfl))) (Or.inr (hw _ (List.mem_of_getElem? (i := 69) rfl))) (by decide) (t := .boolean) (t' := (.object "java/lang/Object")) (by decide) (by decide)))) (Or.inr (slot_ne (Or.inr (hw _ (List.mem_of_getElem? (i := 73) rfl))) (Or.inr (hw _ (List.mem_of_getElem? (i := 71) rfl))) (by decide) (t := .boolean) (t' := (.object "java/lang/String")) (by decide) (by decide))))
  obtain ⟨T137, h137, X137, e137, W137, st137⟩ := putFN X132 hx hZ hown (hw _ (List.mem_of_getElem? (i := 72) rfl)) Via.refl e132 f139 f138 (Or.inr ⟨(hw _ (List.mem_of_getElem? (i := 73) rfl)), rfl, hnm⟩) (hw _ (List.mem_of_getElem? (i := 5) rfl)) (ty := .boolean) (v' := (.int (1 : Int32))) (by decide) rfl rfl (g := (mkF m 64 #[.val (.ref ob), .val (.ref a1), .val (.ref a2), .val (.int p3), .val (.ref a4), .val (.ref a5), .val (.int (1 : Int32))] [(.int (1 : Int32)), (.ref ob)])) rfl rfl (hb hby d_prog_25_method_1_code_64)
  have O141 := Old0.wr O136 W137 prem7
  have K141 := Keep.wr K136 W137 (Or.inl (List.mem_of_getElem? (i := 0) rfl))
  have C140 := CHr.trans C135 (CHr.wr W137 (Safe.exa hZ.alike f138 (by decide) (by decide)) C135.1)
  have hk := Nat.le_trans hk (Keep.of_wr W137).1
  have N137 := Fr.snoc X137 N132 prem7
  have f137 : Fld Z h137 ob "com/example/mailroom/mailroom/core/Envelope" "scheduled" "Z" (.int (1 : Int32)) := Fld.same W137 f139
  refine GoS.of (T' := T137) (f' := (mkF m 67 #[.val (.ref ob), .val (.ref a1), .val (.ref a2), .val (.int p3), .val (.ref a4), .val (.ref a5), .val (.int (1 : Int32))] [])) (fun _ k => st137 _ k) ?_
  exact GoS.retV X137 hx hlk hS hk hZ hEL C140 e137 hret (hb hby d_prog_25_method_1_code_67) (by decide) (by decide) (by rw [e137]; exact ⟨rfl, N137, K141, f137⟩)
theorem ef_rm_sch1 (m : MethodId) (ob : Addr) : entryFrame m #[(.ref ob)] 1 = mkF m 0 #[.val (.ref ob)] [] := by first | (simp [entryFrame, mkF, argsToLocals, Value.category]; done) | rfl
set_option maxRecDepth 65536 in
set_option maxHeartbeats 40000000 in
theorem rm_sch1 {l : Launch} {Z : State} {a0 : Array Value} {s_FIFO : Addr} {s_UNORDERED : Addr} {s_COMPACT_STRINGS : Int32} {s_cache : Addr} {cl_s_cache : Cell} (hw : ∀ d ∈ tables_1, d.before a0 Z = true) (G : own_Ctx Z s_FIFO s_UNORDERED s_COMPACT_STRINGS s_cache cl_s_cache) (ob : Addr)  (h0 : Heap) (O0 : Ext Z.heap h0) (prem0 : Fld Z h0 ob "com/example/mailroom/mailroom/core/Envelope" "scheduled" "Z" (.int (1 : Int32))) :
    Ok l Z (⟨"com/example/mailroom/mailroom/core/Envelope", "scheduled", "()Z"⟩ : MethodName) prog_25_method_13_code 1 (some .boolean) ({ frames := 0, cells := 0, slots := 0, locals := 0 } : Room) #[(.ref ob)] h0
      (fun v h L => v = some (.int (1 : Int32)) ∧ (h = h0) ∧ (L = [])) := by
  refine Ok.mk pn_com_example_mailroom_mailroom_core_Envelope_scheduled___Z ?_
  intro p e s m below meth c T0 hx hby hml hown hnm hret hlk hZ e0 X0
  refine Go.cast (ef_rm_sch1 m ob) ?_
  obtain ⟨S_FIFO, E_s_FIFO, F_s_FIFO_perPairOrder, S_UNORDERED, E_s_UNORDERED, F_s_UNORDERED_ordinal, F_s_FIFO_ordinal, F_s_UNORDERED_perPairOrder, S_COMPACT_STRINGS, hne_s_COMPACT_STRINGS_0, S_high, S_cache, E_s_cache, A_cache, Z_cache, H_cache, ne_UF⟩ := id G
  have N0 := Fr.nil Z.heap.size
  have K0 : Keep h0 h0 [] := Keep.refl _ _
  refine Go.of (T' := T0) (f' := (mkF m 1 #[.val (.ref ob)] [(.ref ob)])) (fun _ k => XS.aloadN X0.here hx rfl (hb hby d_prog_25_method_13_code_0) rfl rfl k) ?_
  obtain ⟨T142, X142, e142, st142⟩ := getF X0 hx hZ hown (host := "") (Or.inl (hw _ (List.mem_of_getElem? (i := 72) rfl))) Via.refl e0 prem0 (g := (mkF m 1 #[.val (.ref ob)] [(.ref ob)])) rfl rfl (hb hby d_prog_25_method_13_code_1)
  refine Go.of (T' := T142) (f' := (mkF m 4 #[.val (.ref ob)] [(.int (1 : Int32))])) (fun _ k => st142 _ k) ?_
  exact Go.retB X142 hx hlk hret (by simp) (hb hby d_prog_25_method_13_code_4) (by decide) (by decide) (z' := (1 : Int32)) rfl (by rw [e142]; exact ⟨rfl, rfl, by simp⟩)
theorem ef_rm_hold_FIFO1 (m : MethodId) (s_FIFO : Addr) (ob : Addr) : entryFrame m #[(.ref s_FIFO), (.ref ob)] 2 = mkF m 0 #[.val (.ref s_FIFO), .val (.ref ob)] [] := by first | (simp [entryFrame, mkF, argsToLocals, Value.category]; done) | rfl
set_option maxRecDepth 65536 in
set_option maxHeartbeats 40000000 in
theorem rm_hold_FIFO1 {l : Launch} {Z : State} {a0 : Array Value} {s_FIFO : Addr} {s_UNORDERED : Addr} {s_COMPACT_STRINGS : Int32} {s_cache : Addr} {cl_s_cache : Cell} (hw : ∀ d ∈ tables_1, d.before a0 Z = true) (G : own_Ctx Z s_FIFO s_UNORDERED s_COMPACT_STRINGS s_cache cl_s_cache) (ob : Addr)  (h0 : Heap) (O0 : Ext Z.heap h0) (prem0 : Exa Z h0 ob "com/example/mailroom/mailroom/core/Envelope") (prem1 : Fld Z h0 ob "com/example/mailroom/mailroom/core/Envelope" "scheduled" "Z" (.int (1 : Int32))) :
    Ok l Z (⟨"com/example/mailroom/mailroom/core/Delivery", "holdsBack", "(Lcom/example/mailroom/mailroom/core/Envelope;)Z"⟩ : MethodName) prog_22_method_6_code 2 (some .boolean) ({ frames := 1, cells := 0, slots := 0, locals := 12 } : Room) #[(.ref s_FIFO), (.ref ob)] h0
      (fun v h L => v = some (.int (0 : Int32)) ∧ (h = h0) ∧ (L = [])) := by
  refine Ok.mk pn_com_example_mailroom_mailroom_core_Delivery_holdsBack__Lcom_example_mailroom_mailroom_core_Envelope__Z ?_
  intro p e s m below meth c T0 hx hby hml hown hnm hret hlk hZ e0 X0
  refine Go.cast (ef_rm_hold_FIFO1 m s_FIFO ob) ?_
  obtain ⟨S_FIFO, E_s_FIFO, F_s_FIFO_perPairOrder, S_UNORDERED, E_s_UNORDERED, F_s_UNORDERED_ordinal, F_s_FIFO_ordinal, F_s_UNORDERED_perPairOrder, S_COMPACT_STRINGS, hne_s_COMPACT_STRINGS_0, S_high, S_cache, E_s_cache, A_cache, Z_cache, H_cache, ne_UF⟩ := id G
  have N0 := Fr.nil Z.heap.size
  have K0 : Keep h0 h0 [] := Keep.refl _ _
  refine Go.of (T' := T0) (f' := (mkF m 1 #[.val (.ref s_FIFO), .val (.ref ob)] [(.ref s_FIFO)])) (fun _ k => XS.aloadN X0.here hx rfl (hb hby d_prog_22_method_6_code_0) rfl rfl k) ?_
  obtain ⟨T143, X143, e143, st143⟩ := getF X0 hx hZ hown (host := "") (Or.inl (hw _ (List.mem_of_getElem? (i := 79) rfl))) Via.refl e0 (Fld.ext O0 F_s_FIFO_perPairOrder) (g := (mkF m 1 #[.val (.ref s_FIFO), .val (.ref ob)] [(.ref s_FIFO)])) rfl rfl (hb hby d_prog_22_method_6_code_1)
  refine Go.of (T' := T143) (f' := (mkF m 4 #[.val (.ref s_FIFO), .val (.ref ob)] [(.int (1 : Int32))])) (fun _ k => st143 _ k) ?_
  refine Go.of (T' := T143) (f' := (mkF m 7 #[.val (.ref s_FIFO), .val (.ref ob)] [])) (fun _ k => XS.ifNo X143.here hx rfl (hb hby d_prog_22_method_6_code_4) rfl ((if0 _ _).trans (feq (by decide : ¬ ((1 : Int32) = (0 : Int32)))).1) k) ?_
  refine Go.of (T' := T143) (f' := (mkF m 8 #[.val (.ref s_FIFO), .val (.ref ob)] [(.ref ob)])) (fun _ k => XS.aloadN X143.here hx rfl (hb hby d_prog_22_method_6_code_7) rfl rfl k) ?_
  obtain ⟨T145, v145, L145, X145, q145, st145⟩ := callVi X143 hx hZ (y := (⟨"com/example/mailroom/mailroom/core/Envelope", "scheduled", "()Z"⟩ : MethodName)) (z := (⟨"com/example/mailroom/mailroom/core/Envelope", "scheduled", "()Z"⟩ : MethodName)) hown (hw _ (List.mem_of_getElem? (i := 81) rfl)) (hw _ (List.mem_of_getElem? (i := 82) rfl)) (notFace_of_selects (args := #[]) (mvT hZ (hw _ (List.mem_of_getElem? (i := 84) rfl)))) (hw _ (List.mem_of_getElem? (i := 84) rfl)) (hw _ (List.mem_of_getElem? (i := 83) rfl)) (hw _ (List.mem_of_getElem? (i := 85) rfl)) (hw _ (List.mem_of_getElem? (i := 6) rfl)) (by decide) (rm_sch1 hw G ob  h0 O0 prem1) e143 (W := 0) (by decide) (by decide) (by decide) (by decide) prem0 (g := (mkF m 8 #[.val (.ref s_FIFO), .val (.ref ob)] [(.ref ob)])) rfl (by rw [hml]; rfl) (argsL := []) (rest := []) (lenOf pd___Z rfl) rfl rfl (by show 2 * 0 + _ ≤ _; exact Nat.le_of_eq rfl) (hb hby d_prog_22_method_6_code_8)
  obtain ⟨rfl, e145, rfl⟩ := q145
  have N145 := Fr.app N0 (Fr.nil _)
  refine Go.of (T' := T145) (f' := (mkF m 11 #[.val (.ref s_FIFO), .val (.ref ob)] [(.int (1 : Int32))])) (fun _ k => st145 _ k) ?_
  refine Go.of (T' := T145) (f' := (mkF m 18 #[.val (.ref s_FIFO), .val (.ref ob)] [])) (fun _ k => XS.ifYes X145.here hx rfl (pc0 := 11) (pc' := 18) rfl (hb hby d_prog_22_method_6_code_11) rfl ((if0 _ _).trans (feq (by decide : ¬ ((1 : Int32) = (0 : Int32)))).2) (by decide) (by decide) k) ?_
  refine Go.of (T' := T145) (f' := (mkF m 19 #[.val (.ref s_FIFO), .val (.ref ob)] [(.int (0 : Int32))])) (fun _ k => XS.iconst X145.here hx rfl (hb hby d_prog_22_method_6_code_18) k) ?_
  exact Go.retB X145 hx hlk hret (by simp) (hb hby d_prog_22_method_6_code_19) (by decide) (by decide) (z' := (0 : Int32)) rfl (by rw [e145]; exact ⟨rfl, rfl, by simp⟩)
theorem ef_rm_hold_UNORDERED1 (m : MethodId) (s_UNORDERED : Addr) (ob : Addr) : entryFrame m #[(.ref s_UNORDERED), (.ref ob)] 2 = mkF m 0 #[.val (.ref s_UNORDERED), .val (.ref ob)] [] := by first | (simp [entryFrame, mkF, argsToLocals, Value.category]; done) | rfl
set_option maxRecDepth 65536 in
set_option maxHeartbeats 40000000 in
theorem rm_hold_UNORDERED1 {l : Launch} {Z : State} {a0 : Array Value} {s_FIFO : Addr} {s_UNORDERED : Addr} {s_COMPACT_STRINGS : Int32} {s_cache : Addr} {cl_s_cache : Cell} (hw : ∀ d ∈ tables_1, d.before a0 Z = true) (G : own_Ctx Z s_FIFO s_UNORDERED s_COMPACT_STRINGS s_cache cl_s_cache) (ob : Addr)  (h0 : Heap) (O0 : Ext Z.heap h0) (prem0 : Exa Z h0 ob "com/example/mailroom/mailroom/core/Envelope") (prem1 : Fld Z h0 ob "com/example/mailroom/mailroom/core/Envelope" "scheduled" "Z" (.int (1 : Int32))) :
    Ok l Z (⟨"com/example/mailroom/mailroom/core/Delivery", "holdsBack", "(Lcom/example/mailroom/mailroom/core/Envelope;)Z"⟩ : MethodName) prog_22_method_6_code 2 (some .boolean) ({ frames := 0, cells := 0, slots := 0, locals := 0 } : Room) #[(.ref s_UNORDERED), (.ref ob)] h0
      (fun v h L => v = some (.int (0 : Int32)) ∧ (h = h0) ∧ (L = [])) := by
  refine Ok.mk pn_com_example_mailroom_mailroom_core_Delivery_holdsBack__Lcom_example_mailroom_mailroom_core_Envelope__Z ?_
  intro p e s m below meth c T0 hx hby hml hown hnm hret hlk hZ e0 X0
  refine Go.cast (ef_rm_hold_UNORDERED1 m s_UNORDERED ob) ?_
  obtain ⟨S_FIFO, E_s_FIFO, F_s_FIFO_perPairOrder, S_UNORDERED, E_s_UNORDERED, F_s_UNORDERED_ordinal, F_s_FIFO_ordinal, F_s_UNORDERED_perPairOrder, S_COMPACT_STRINGS, hne_s_COMPACT_STRINGS_0, S_high, S_cache, E_s_cache, A_cache, Z_cache, H_cache, ne_UF⟩ := id G
  have N0 := Fr.nil Z.heap.size
  have K0 : Keep h0 h0 [] := Keep.refl _ _
  refine Go.of (T' := T0) (f' := (mkF m 1 #[.val (.ref s_UNORDERED), .val (.ref ob)] [(.ref s_UNORDERED)])) (fun _ k => XS.aloadN X0.here hx rfl (hb hby d_prog_22_method_6_code_0) rfl rfl k) ?_
  obtain ⟨T147, X147, e147, st147⟩ := getF X0 hx hZ hown (host := "") (Or.inl (hw _ (List.mem_of_getElem? (i := 79) rfl))) Via.refl e0 (Fld.ext O0 F_s_UNORDERED_perPairOrder) (g := (mkF m 1 #[.val (.ref s_UNORDERED), .val (.ref ob)] [(.ref s_UNORDERED)])) rfl rfl (hb hby d_prog_22_method_6_code_1)
  refine Go.of (T' := T147) (f' := (mkF m 4 #[.val (.ref s_UNORDERED), .val (.ref ob)] [(.int (0 : Int32))])) (fun _ k => st147 _ k) ?_
  refine Go.of (T' := T147) (f' := (mkF m 18 #[.val (.ref s_UNORDERED), .val (.ref ob)] [])) (fun _ k => XS.ifYes X147.here hx rfl (pc0 := 4) (pc' := 18) rfl (hb hby d_prog_22_method_6_code_4) rfl ((if0 _ _).trans (teq (by decide : (0 : Int32) = (0 : Int32))).1) (by decide) (by decide) k) ?_
  refine Go.of (T' := T147) (f' := (mkF m 19 #[.val (.ref s_UNORDERED), .val (.ref ob)] [(.int (0 : Int32))])) (fun _ k => XS.iconst X147.here hx rfl (hb hby d_prog_22_method_6_code_18) k) ?_
  exact Go.retB X147 hx hlk hret (by simp) (hb hby d_prog_22_method_6_code_19) (by decide) (by decide) (z' := (0 : Int32)) rfl (by rw [e147]; exact ⟨rfl, rfl, by simp⟩)
theorem pd___C_V : parseMethodDescriptor "([C)V" = some ⟨[(.array .char)], none⟩ := by decide +kernel
theorem pd__I_Ljava_lang_Integer_ : parseMethodDescriptor "(I)Ljava/lang/Integer;" = some ⟨[.int], some (.object "java/lang/Integer")⟩ := by decide +kernel
theorem pd__Ljava_lang_String_Ljava_lang_String_ILjava_lang_Object_Ljava_lang_String_Z_V : parseMethodDescriptor "(Ljava/lang/String;Ljava/lang/String;ILjava/lang/Object;Ljava/lang/String;Z)V" = some ⟨[(.object "java/lang/String"), (.object "java/lang/String"), .int, (.object "java/lang/Object"), (.object "java/lang/String"), .boolean], none⟩ := by decide +kernel
theorem pd__Lcom_example_mailroom_mailroom_core_Envelope__Z : parseMethodDescriptor "(Lcom/example/mailroom/mailroom/core/Envelope;)Z" = some ⟨[(.object "com/example/mailroom/mailroom/core/Envelope")], some .boolean⟩ := by decide +kernel
theorem ef_rm_law (m : MethodId) (p0 : Int32) (p1 : Int32) (p2 : Int32) (p3 : Int32) : entryFrame m #[(.int p0), (.int p1), (.int p2), (.int p3)] maxLocals = mkF m 0 #[.val (.int p0), .val (.int p1), .val (.int p2), .val (.int p3), .unset, .unset, .unset, .unset, .unset, .unset, .unset] [] := by first | (simp [entryFrame, mkF, argsToLocals, Value.category, maxLocals]; done) | rfl
theorem pn_com_example_mailroom_mailroom_core_DeliveryHoldsBackPinLaw_law__IIII_Z : plainFor (⟨"com/example/mailroom/mailroom/core/DeliveryHoldsBackPinLaw", "law", "(IIII)Z"⟩ : MethodName) = true := by first | exact plainFor_of_name (by first | (simp [plainName, overriddenIn]; done) | decide +kernel) | decide +kernel
set_option maxRecDepth 65536 in
set_option maxHeartbeats 40000000 in
theorem rm_law {l : Launch} {Z : State} {a0 : Array Value} {s_FIFO : Addr} {s_UNORDERED : Addr} {s_COMPACT_STRINGS : Int32} {s_cache : Addr} {cl_s_cache : Cell} (hw : ∀ d ∈ tables_1, d.before a0 Z = true) (G : own_Ctx Z s_FIFO s_UNORDERED s_COMPACT_STRINGS s_cache cl_s_cache) (p0 : Int32) (p1 : Int32) (p2 : Int32) (p3 : Int32)  (h0 : Heap) (O0 : Ext Z.heap h0)  :
    OkS l Z own_EL x code maxLocals ret room_1 #[(.int p0), (.int p1), (.int p2), (.int p3)] h0
      (fun v h L => v = some (.int (1 : Int32)) ∧ (Fr Z.heap.size L) ∧ (Keep h0 h [])) := by
  refine OkS.mk pn_com_example_mailroom_mailroom_core_DeliveryHoldsBackPinLaw_law__IIII_Z ?_
  intro p e s m below meth c T0 hx hby hml hown hnm hret hlk hZ e0 C0 hS X0
  have hk := Nat.zero_le h0.size
  have hEL := own_EW hw
  have hml : c.maxLocals = 11 := hml
  have hown : s.vm.findClass "com/example/mailroom/mailroom/core/DeliveryHoldsBackPinLaw" = some m.cls := hown
  refine GoS.cast (ef_rm_law m p0 p1 p2 p3) ?_
  obtain ⟨S_FIFO, E_s_FIFO, F_s_FIFO_perPairOrder, S_UNORDERED, E_s_UNORDERED, F_s_UNORDERED_ordinal, F_s_FIFO_ordinal, F_s_UNORDERED_perPairOrder, S_COMPACT_STRINGS, hne_s_COMPACT_STRINGS_0, S_high, S_cache, E_s_cache, A_cache, Z_cache, H_cache, ne_UF⟩ := id G
  have N0 := Fr.nil Z.heap.size
  have K0 : Keep h0 h0 [] := Keep.refl _ _
  refine GoS.of (T' := T0) (f' := (mkF m 1 #[.val (.int p0), .val (.int p1), .val (.int p2), .val (.int p3), .unset, .unset, .unset, .unset, .unset, .unset, .unset] [(.int p0)])) (fun _ k => XS.iloadN X0.here hx rfl (hb hby at_0) rfl k) ?_
  refine GoS.of (T' := T0) (f' := (mkF m 2 #[.val (.int p0), .val (.int p1), .val (.int p2), .val (.int p3), .unset, .unset, .unset, .unset, .unset, .unset, .unset] [(.int (1 : Int32)), (.int p0)])) (fun _ k => XS.iconst X0.here hx rfl (hb hby at_1) k) ?_
  refine GoS.of (T' := T0) (f' := (mkF m 3 #[.val (.int p0), .val (.int p1), .val (.int p2), .val (.int p3), .unset, .unset, .unset, .unset, .unset, .unset, .unset] [(.int (p0 &&& (1 : Int32)))])) (fun _ k => XS.iand X0.here hx rfl (hb hby at_2) rfl k) ?_
  by_cases hc149 : (p0 &&& (1 : Int32)) = (0 : Int32)
  · skip
    refine GoS.of (T' := T0) (f' := (mkF m 6 #[.val (.int p0), .val (.int p1), .val (.int p2), .val (.int p3), .unset, .unset, .unset, .unset, .unset, .unset, .unset] [])) (fun _ k => XS.ifNo X0.here hx rfl (hb hby at_3) rfl ((if0 _ _).trans (teq hc149).2) k) ?_
    obtain ⟨T150, X150, e150, st150⟩ := getS2 X0 hx hZ hown (host := "") (Or.inl (hw _ (List.mem_of_getElem? (i := 0) rfl))) Via.refl e0 (Sta.ext O0 S_FIFO) (g := (mkF m 6 #[.val (.int p0), .val (.int p1), .val (.int p2), .val (.int p3), .unset, .unset, .unset, .unset, .unset, .unset, .unset] [])) rfl (hb hby at_6)
    refine GoS.of (T' := T150) (f' := (mkF m 9 #[.val (.int p0), .val (.int p1), .val (.int p2), .val (.int p3), .unset, .unset, .unset, .unset, .unset, .unset, .unset] [(.ref s_FIFO)])) (fun _ k => st150 _ k) ?_
    refine GoS.of (T' := T150) (f' := (mkF m 15 #[.val (.int p0), .val (.int p1), .val (.int p2), .val (.int p3), .unset, .unset, .unset, .unset, .unset, .unset, .unset] [(.ref s_FIFO)])) (fun _ k => XS.goto X150.here hx rfl (pc0 := 9) (pc' := 15) rfl (hb hby at_9) (by decide) (by decide) k) ?_
    refine GoS.of (T' := T150) (f' := (mkF m 17 #[.val (.int p0), .val (.int p1), .val (.int p2), .val (.int p3), .val (.ref s_FIFO), .unset, .unset, .unset, .unset, .unset, .unset] [])) (fun _ k => XS.astore X150.here hx rfl (hb hby at_15) rfl rfl (l' := #[.val (.int p0), .val (.int p1), .val (.int p2), .val (.int p3), .val (.ref s_FIFO), .unset, .unset, .unset, .unset, .unset, .unset]) rfl k) ?_
    refine GoS.of (T' := T150) (f' := (mkF m 18 #[.val (.int p0), .val (.int p1), .val (.int p2), .val (.int p3), .val (.ref s_FIFO), .unset, .unset, .unset, .unset, .unset, .unset] [(.int p1)])) (fun _ k => XS.iloadN X150.here hx rfl (hb hby at_17) rfl k) ?_
    refine GoS.of (T' := T150) (f' := (mkF m 19 #[.val (.int p0), .val (.int p1), .val (.int p2), .val (.int p3), .val (.ref s_FIFO), .unset, .unset, .unset, .unset, .unset, .unset] [(.int (1 : Int32)), (.int p1)])) (fun _ k => XS.iconst X150.here hx rfl (hb hby at_18) k) ?_
    refine GoS.of (T' := T150) (f' := (mkF m 20 #[.val (.int p0), .val (.int p1), .val (.int p2), .val (.int p3), .val (.ref s_FIFO), .unset, .unset, .unset, .unset, .unset, .unset] [(.int (p1 &&& (1 : Int32)))])) (fun _ k => XS.iand X150.here hx rfl (hb hby at_19) rfl k) ?_
    by_cases hc151 : (p1 &&& (1 : Int32)) = (0 : Int32)
    · skip
      refine GoS.of (T' := T150) (f' := (mkF m 27 #[.val (.int p0), .val (.int p1), .val (.int p2), .val (.int p3), .val (.ref s_FIFO), .unset, .unset, .unset, .unset, .unset, .unset] [])) (fun _ k => XS.ifYes X150.here hx rfl (pc0 := 20) (pc' := 27) rfl (hb hby at_20) rfl ((if0 _ _).trans (teq hc151).1) (by decide) (by decide) k) ?_
      refine GoS.of (T' := T150) (f' := (mkF m 28 #[.val (.int p0), .val (.int p1), .val (.int p2), .val (.int p3), .val (.ref s_FIFO), .unset, .unset, .unset, .unset, .unset, .unset] [(.int (0 : Int32))])) (fun _ k => XS.iconst X150.here hx rfl (hb hby at_27) k) ?_
      refine GoS.of (T' := T150) (f' := (mkF m 30 #[.val (.int p0), .val (.int p1), .val (.int p2), .val (.int p3), .val (.ref s_FIFO), .val (.int (0 : Int32)), .unset, .unset, .unset, .unset, .unset] [])) (fun _ k => XS.istore X150.here hx rfl (hb hby at_28) rfl (l' := #[.val (.int p0), .val (.int p1), .val (.int p2), .val (.int p3), .val (.ref s_FIFO), .val (.int (0 : Int32)), .unset, .unset, .unset, .unset, .unset]) rfl k) ?_
      refine GoS.of (T' := T150) (f' := (mkF m 31 #[.val (.int p0), .val (.int p1), .val (.int p2), .val (.int p3), .val (.ref s_FIFO), .val (.int (0 : Int32)), .unset, .unset, .unset, .unset, .unset] [(.int (1 : Int32))])) (fun _ k => XS.iconst X150.here hx rfl (hb hby at_30) k) ?_
      obtain ⟨T152, h152, k152, b152, q152, X152, e152, E152, V152, A152, st152⟩ := newAr X150 hx hZ (hw _ (List.mem_of_getElem? (i := 3) rfl)) e150 (g := (mkF m 31 #[.val (.int p0), .val (.int p1), .val (.int p2), .val (.int p3), .val (.ref s_FIFO), .val (.int (0 : Int32)), .unset, .unset, .unset, .unset, .unset] [(.int (1 : Int32))])) rfl (hb hby at_31) rfl (by decide) (cap := 1) (by decide) (by decide) (by decide) (by decide) (ad := "[C") (by decide)
      have O154 := Old0.ext O0 E152
      have K154 := Keep.ext K0 E152
      have C153 := CHr.trans C0 (CHr.ext E152 C0.1)
      have hk := Nat.le_trans hk E152.1
      have g_b152 : Z.heap.size ≤ b152 := q152 ▸ O0.1
      have z_b152 : h0.size ≤ b152 := q152 ▸ K0.1
      have f155 : Arv Z h152 b152 k152 .char (1 : Int32) [(.int (0 : Int32))] (.int (0 : Int32)) := Arv.pad V152 (pad_rep [] (.int (0 : Int32)) 1)
      refine GoS.of (T' := T152) (f' := (mkF m 33 #[.val (.int p0), .val (.int p1), .val (.int p2), .val (.int p3), .val (.ref s_FIFO), .val (.int (0 : Int32)), .unset, .unset, .unset, .unset, .unset] [(.ref b152)])) (fun _ k => st152 _ k) ?_
      refine GoS.of (T' := T152) (f' := (mkF m 34 #[.val (.int p0), .val (.int p1), .val (.int p2), .val (.int p3), .val (.ref s_FIFO), .val (.int (0 : Int32)), .unset, .unset, .unset, .unset, .unset] [(.ref b152), (.ref b152)])) (fun _ k => XS.dup X152.here hx rfl (hb hby at_33) rfl rfl k) ?_
      refine GoS.of (T' := T152) (f' := (mkF m 35 #[.val (.int p0), .val (.int p1), .val (.int p2), .val (.int p3), .val (.ref s_FIFO), .val (.int (0 : Int32)), .unset, .unset, .unset, .unset, .unset] [(.int (0 : Int32)), (.ref b152), (.ref b152)])) (fun _ k => XS.iconst X152.here hx rfl (hb hby at_34) k) ?_
      refine GoS.of (T' := T152) (f' := (mkF m 36 #[.val (.int p0), .val (.int p1), .val (.int p2), .val (.int p3), .val (.ref s_FIFO), .val (.int (0 : Int32)), .unset, .unset, .unset, .unset, .unset] [(.int p3), (.int (0 : Int32)), (.ref b152), (.ref b152)])) (fun _ k => XS.iloadN X152.here hx rfl (hb hby at_35) rfl k) ?_
      refine GoS.of (T' := T152) (f' := (mkF m 39 #[.val (.int p0), .val (.int p1), .val (.int p2), .val (.int p3), .val (.ref s_FIFO), .val (.int (0 : Int32)), .unset, .unset, .unset, .unset, .unset] [(.int (255 : Int32)), (.int p3), (.int (0 : Int32)), (.ref b152), (.ref b152)])) (fun _ k => XS.sipush X152.here hx rfl (hb hby at_36) k) ?_
      refine GoS.of (T' := T152) (f' := (mkF m 40 #[.val (.int p0), .val (.int p1), .val (.int p2), .val (.int p3), .val (.ref s_FIFO), .val (.int (0 : Int32)), .unset, .unset, .unset, .unset, .unset] [(.int (p3 &&& (255 : Int32))), (.int (0 : Int32)), (.ref b152), (.ref b152)])) (fun _ k => XS.iand X152.here hx rfl (hb hby at_39) rfl k) ?_
      refine GoS.of (T' := T152) (f' := (mkF m 41 #[.val (.int p0), .val (.int p1), .val (.int p2), .val (.int p3), .val (.ref s_FIFO), .val (.int (0 : Int32)), .unset, .unset, .unset, .unset, .unset] [(.int ((p3 &&& (255 : Int32)).toUInt32.toUInt16.toUInt32.toInt32)), (.int (0 : Int32)), (.ref b152), (.ref b152)])) (fun _ k => XS.i2c X152.here hx rfl (hb hby at_40) rfl k) ?_
      obtain ⟨cl156, Ar156, qk156, S156, Ng156, H156, G156⟩ := id f155
      obtain ⟨T156, h156, X156, e156, W156, st156⟩ := stC X152 hx hZ e152 Ar156 (j := (0 : Int32)) (inb_of S156 ⟨by decide, by decide⟩) (g := (mkF m 41 #[.val (.int p0), .val (.int p1), .val (.int p2), .val (.int p3), .val (.ref s_FIFO), .val (.int (0 : Int32)), .unset, .unset, .unset, .unset, .unset] [(.int ((p3 &&& (255 : Int32)).toUInt32.toUInt16.toUInt32.toInt32)), (.int (0 : Int32)), (.ref b152), (.ref b152)])) rfl rfl (hb hby at_41)
      have W156 : Wr h152 h156 b152 ((0 : Int32)).toNatClampNeg (.int (p3 &&& (255 : Int32))) := Eq.mp (congrArg (fun z => Wr h152 h156 b152 ((0 : Int32)).toNatClampNeg (Value.int z)) (own_c255 p3)) W156
      have O158 := Old0.wr O154 W156 g_b152
      have K158 := Keep.wr K154 W156 (Or.inr z_b152)
      have C157 := CHr.trans C153 (CHr.wr W156 (Safe.exa hZ.alike A152 (by decide) (by decide)) C153.1)
      have hk := Nat.le_trans hk (Keep.of_wr W156).1
      have f156 : Arv Z h156 b152 k152 .char (1 : Int32) [(.int (p3 &&& (255 : Int32)))] (.int (0 : Int32)) := Arv.set Ar156 qk156 S156 Ng156 H156 G156 (v := (.int (p3 &&& (255 : Int32)))) (own_f255 p3) W156 0 rfl (Nat.le_of_ble_eq_true rfl)
      have N156 := Fr.snoc X156 N0 g_b152
      refine GoS.of (T' := T156) (f' := (mkF m 42 #[.val (.int p0), .val (.int p1), .val (.int p2), .val (.int p3), .val (.ref s_FIFO), .val (.int (0 : Int32)), .unset, .unset, .unset, .unset, .unset] [(.ref b152)])) (fun _ k => st156 _ k) ?_
      refine GoS.of (T' := T156) (f' := (mkF m 44 #[.val (.int p0), .val (.int p1), .val (.int p2), .val (.int p3), .val (.ref s_FIFO), .val (.int (0 : Int32)), .val (.ref b152), .unset, .unset, .unset, .unset] [])) (fun _ k => XS.astore X156.here hx rfl (hb hby at_42) rfl rfl (l' := #[.val (.int p0), .val (.int p1), .val (.int p2), .val (.int p3), .val (.ref s_FIFO), .val (.int (0 : Int32)), .val (.ref b152), .unset, .unset, .unset, .unset]) rfl k) ?_
      refine GoS.of (T' := T156) (f' := (mkF m 45 #[.val (.int p0), .val (.int p1), .val (.int p2), .val (.int p3), .val (.ref s_FIFO), .val (.int (0 : Int32)), .val (.ref b152), .unset, .unset, .unset, .unset] [(.int (1 : Int32))])) (fun _ k => XS.iconst X156.here hx rfl (hb hby at_44) k) ?_
      have f160 : Exa Z h156 b152 "[C" := (Exa.wr W156 A152)
      obtain ⟨T159, h159, k159, b159, q159, X159, e159, E159, V159, A159, st159⟩ := newAr X156 hx hZ (hw _ (List.mem_of_getElem? (i := 3) rfl)) e156 (g := (mkF m 45 #[.val (.int p0), .val (.int p1), .val (.int p2), .val (.int p3), .val (.ref s_FIFO), .val (.int (0 : Int32)), .val (.ref b152), .unset, .unset, .unset, .unset] [(.int (1 : Int32))])) rfl (hb hby at_45) rfl (by decide) (cap := 1) (by decide) (by decide) (by decide) (by decide) (ad := "[C") (by decide)
      have O162 := Old0.ext O158 E159
      have K162 := Keep.ext K158 E159
      have C161 := CHr.trans C157 (CHr.ext E159 C157.1)
      have hk := Nat.le_trans hk E159.1
      have g_b159 : Z.heap.size ≤ b159 := q159 ▸ O158.1
      have z_b159 : h0.size ≤ b159 := q159 ▸ K158.1
      have ne_b152_b159 : b152 ≠ b159 := q159 ▸ Nat.ne_of_lt f160.lt
      have f163 : Arv Z h159 b159 k159 .char (1 : Int32) [(.int (0 : Int32))] (.int (0 : Int32)) := Arv.pad V159 (pad_rep [] (.int (0 : Int32)) 1)
      refine GoS.of (T' := T159) (f' := (mkF m 47 #[.val (.int p0), .val (.int p1), .val (.int p2), .val (.int p3), .val (.ref s_FIFO), .val (.int (0 : Int32)), .val (.ref b152), .unset, .unset, .unset, .unset] [(.ref b159)])) (fun _ k => st159 _ k) ?_
      refine GoS.of (T' := T159) (f' := (mkF m 48 #[.val (.int p0), .val (.int p1), .val (.int p2), .val (.int p3), .val (.ref s_FIFO), .val (.int (0 : Int32)), .val (.ref b152), .unset, .unset, .unset, .unset] [(.ref b159), (.ref b159)])) (fun _ k => XS.dup X159.here hx rfl (hb hby at_47) rfl rfl k) ?_
      refine GoS.of (T' := T159) (f' := (mkF m 49 #[.val (.int p0), .val (.int p1), .val (.int p2), .val (.int p3), .val (.ref s_FIFO), .val (.int (0 : Int32)), .val (.ref b152), .unset, .unset, .unset, .unset] [(.int (0 : Int32)), (.ref b159), (.ref b159)])) (fun _ k => XS.iconst X159.here hx rfl (hb hby at_48) k) ?_
      refine GoS.of (T' := T159) (f' := (mkF m 50 #[.val (.int p0), .val (.int p1), .val (.int p2), .val (.int p3), .val (.ref s_FIFO), .val (.int (0 : Int32)), .val (.ref b152), .unset, .unset, .unset, .unset] [(.int p3), (.int (0 : Int32)), (.ref b159), (.ref b159)])) (fun _ k => XS.iloadN X159.here hx rfl (hb hby at_49) rfl k) ?_
      refine GoS.of (T' := T159) (f' := (mkF m 52 #[.val (.int p0), .val (.int p1), .val (.int p2), .val (.int p3), .val (.ref s_FIFO), .val (.int (0 : Int32)), .val (.ref b152), .unset, .unset, .unset, .unset] [(.int (8 : Int32)), (.int p3), (.int (0 : Int32)), (.ref b159), (.ref b159)])) (fun _ k => XS.bipush X159.here hx rfl (hb hby at_50) k) ?_
      refine GoS.of (T' := T159) (f' := (mkF m 53 #[.val (.int p0), .val (.int p1), .val (.int p2), .val (.int p3), .val (.ref s_FIFO), .val (.int (0 : Int32)), .val (.ref b152), .unset, .unset, .unset, .unset] [(.int ((p3.toUInt32 >>> ((8 : Int32) &&& 31).toUInt32).toInt32)), (.int (0 : Int32)), (.ref b159), (.ref b159)])) (fun _ k => XS.iushr X159.here hx rfl (hb hby at_52) rfl k) ?_
      generalize hy8 : (((p3.toUInt32 >>> ((8 : Int32) &&& 31).toUInt32).toInt32) : Int32) = y8
      refine GoS.of (T' := T159) (f' := (mkF m 56 #[.val (.int p0), .val (.int p1), .val (.int p2), .val (.int p3), .val (.ref s_FIFO), .val (.int (0 : Int32)), .val (.ref b152), .unset, .unset, .unset, .unset] [(.int (255 : Int32)), (.int y8), (.int (0 : Int32)), (.ref b159), (.ref b159)])) (fun _ k => XS.sipush X159.here hx rfl (hb hby at_53) k) ?_
      refine GoS.of (T' := T159) (f' := (mkF m 57 #[.val (.int p0), .val (.int p1), .val (.int p2), .val (.int p3), .val (.ref s_FIFO), .val (.int (0 : Int32)), .val (.ref b152), .unset, .unset, .unset, .unset] [(.int (y8 &&& (255 : Int32))), (.int (0 : Int32)), (.ref b159), (.ref b159)])) (fun _ k => XS.iand X159.here hx rfl (hb hby at_56) rfl k) ?_
      refine GoS.of (T' := T159) (f' := (mkF m 58 #[.val (.int p0), .val (.int p1), .val (.int p2), .val (.int p3), .val (.ref s_FIFO), .val (.int (0 : Int32)), .val (.ref b152), .unset, .unset, .unset, .unset] [(.int ((y8 &&& (255 : Int32)).toUInt32.toUInt16.toUInt32.toInt32)), (.int (0 : Int32)), (.ref b159), (.ref b159)])) (fun _ k => XS.i2c X159.here hx rfl (hb hby at_57) rfl k) ?_
      obtain ⟨cl164, Ar164, qk164, S164, Ng164, H164, G164⟩ := id f163
      obtain ⟨T164, h164, X164, e164, W164, st164⟩ := stC X159 hx hZ e159 Ar164 (j := (0 : Int32)) (inb_of S164 ⟨by decide, by decide⟩) (g := (mkF m 58 #[.val (.int p0), .val (.int p1), .val (.int p2), .val (.int p3), .val (.ref s_FIFO), .val (.int (0 : Int32)), .val (.ref b152), .unset, .unset, .unset, .unset] [(.int ((y8 &&& (255 : Int32)).toUInt32.toUInt16.toUInt32.toInt32)), (.int (0 : Int32)), (.ref b159), (.ref b159)])) rfl rfl (hb hby at_58)
      have W164 : Wr h159 h164 b159 ((0 : Int32)).toNatClampNeg (.int (y8 &&& (255 : Int32))) := Eq.mp (congrArg (fun z => Wr h159 h164 b159 ((0 : Int32)).toNatClampNeg (Value.int z)) (own_c255 y8)) W164
      have O166 := Old0.wr O162 W164 g_b159
      have K166 := Keep.wr K162 W164 (Or.inr z_b159)
      have C165 := CHr.trans C161 (CHr.wr W164 (Safe.exa hZ.alike A159 (by decide) (by decide)) C161.1)
      have hk := Nat.le_trans hk (Keep.of_wr W164).1
      have f164 : Arv Z h164 b159 k159 .char (1 : Int32) [(.int (y8 &&& (255 : Int32)))] (.int (0 : Int32)) := Arv.set Ar164 qk164 S164 Ng164 H164 G164 (v := (.int (y8 &&& (255 : Int32)))) (own_f255 y8) W164 0 rfl (Nat.le_of_ble_eq_true rfl)
      have N164 := Fr.snoc X164 N156 g_b159
      refine GoS.of (T' := T164) (f' := (mkF m 59 #[.val (.int p0), .val (.int p1), .val (.int p2), .val (.int p3), .val (.ref s_FIFO), .val (.int (0 : Int32)), .val (.ref b152), .unset, .unset, .unset, .unset] [(.ref b159)])) (fun _ k => st164 _ k) ?_
      refine GoS.of (T' := T164) (f' := (mkF m 61 #[.val (.int p0), .val (.int p1), .val (.int p2), .val (.int p3), .val (.ref s_FIFO), .val (.int (0 : Int32)), .val (.ref b152), .val (.ref b159), .unset, .unset, .unset] [])) (fun _ k => XS.astore X164.here hx rfl (hb hby at_59) rfl rfl (l' := #[.val (.int p0), .val (.int p1), .val (.int p2), .val (.int p3), .val (.ref s_FIFO), .val (.int (0 : Int32)), .val (.ref b152), .val (.ref b159), .unset, .unset, .unset]) rfl k) ?_
      refine GoS.of (T' := T164) (f' := (mkF m 62 #[.val (.int p0), .val (.int p1), .val (.int p2), .val (.int p3), .val (.ref s_FIFO), .val (.int (0 : Int32)), .val (.ref b152), .val (.ref b159), .unset, .unset, .unset] [(.int (1 : Int32))])) (fun _ k => XS.iconst X164.here hx rfl (hb hby at_61) k) ?_
      have f168 : Exa Z h164 b152 "[C" := (Exa.wr W164 (Exa.ext E159 f160))
      have f169 : Exa Z h164 b159 "[C" := (Exa.wr W164 A159)
      obtain ⟨T167, h167, k167, b167, q167, X167, e167, E167, V167, A167, st167⟩ := newAr X164 hx hZ (hw _ (List.mem_of_getElem? (i := 3) rfl)) e164 (g := (mkF m 62 #[.val (.int p0), .val (.int p1), .val (.int p2), .val (.int p3), .val (.ref s_FIFO), .val (.int (0 : Int32)), .val (.ref b152), .val (.ref b159), .unset, .unset, .unset] [(.int (1 : Int32))])) rfl (hb hby at_62) rfl (by decide) (cap := 1) (by decide) (by decide) (by decide) (by decide) (ad := "[C") (by decide)
      have O171 := Old0.ext O166 E167
      have K171 := Keep.ext K166 E167
      have C170 := CHr.trans C165 (CHr.ext E167 C165.1)
      have hk := Nat.le_trans hk E167.1
      have g_b167 : Z.heap.size ≤ b167 := q167 ▸ O166.1
      have z_b167 : h0.size ≤ b167 := q167 ▸ K166.1
      have ne_b152_b167 : b152 ≠ b167 := q167 ▸ Nat.ne_of_lt f168.lt
      have ne_b159_b167 : b159 ≠ b167 := q167 ▸ Nat.ne_of_lt f169.lt
      have f172 : Arv Z h167 b167 k167 .char (1 : Int32) [(.int (0 : Int32))] (.int (0 : Int32)) := Arv.pad V167 (pad_rep [] (.int (0 : Int32)) 1)
      refine GoS.of (T' := T167) (f' := (mkF m 64 #[.val (.int p0), .val (.int p1), .val (.int p2), .val (.int p3), .val (.ref s_FIFO), .val (.int (0 : Int32)), .val (.ref b152), .val (.ref b159), .unset, .unset, .unset] [(.ref b167)])) (fun _ k => st167 _ k) ?_
      refine GoS.of (T' := T167) (f' := (mkF m 65 #[.val (.int p0), .val (.int p1), .val (.int p2), .val (.int p3), .val (.ref s_FIFO), .val (.int (0 : Int32)), .val (.ref b152), .val (.ref b159), .unset, .unset, .unset] [(.ref b167), (.ref b167)])) (fun _ k => XS.dup X167.here hx rfl (hb hby at_64) rfl rfl k) ?_
      refine GoS.of (T' := T167) (f' := (mkF m 66 #[.val (.int p0), .val (.int p1), .val (.int p2), .val (.int p3), .val (.ref s_FIFO), .val (.int (0 : Int32)), .val (.ref b152), .val (.ref b159), .unset, .unset, .unset] [(.int (0 : Int32)), (.ref b167), (.ref b167)])) (fun _ k => XS.iconst X167.here hx rfl (hb hby at_65) k) ?_
      refine GoS.of (T' := T167) (f' := (mkF m 67 #[.val (.int p0), .val (.int p1), .val (.int p2), .val (.int p3), .val (.ref s_FIFO), .val (.int (0 : Int32)), .val (.ref b152), .val (.ref b159), .unset, .unset, .unset] [(.int p3), (.int (0 : Int32)), (.ref b167), (.ref b167)])) (fun _ k => XS.iloadN X167.here hx rfl (hb hby at_66) rfl k) ?_
      refine GoS.of (T' := T167) (f' := (mkF m 69 #[.val (.int p0), .val (.int p1), .val (.int p2), .val (.int p3), .val (.ref s_FIFO), .val (.int (0 : Int32)), .val (.ref b152), .val (.ref b159), .unset, .unset, .unset] [(.int (16 : Int32)), (.int p3), (.int (0 : Int32)), (.ref b167), (.ref b167)])) (fun _ k => XS.bipush X167.here hx rfl (hb hby at_67) k) ?_
      refine GoS.of (T' := T167) (f' := (mkF m 70 #[.val (.int p0), .val (.int p1), .val (.int p2), .val (.int p3), .val (.ref s_FIFO), .val (.int (0 : Int32)), .val (.ref b152), .val (.ref b159), .unset, .unset, .unset] [(.int ((p3.toUInt32 >>> ((16 : Int32) &&& 31).toUInt32).toInt32)), (.int (0 : Int32)), (.ref b167), (.ref b167)])) (fun _ k => XS.iushr X167.here hx rfl (hb hby at_69) rfl k) ?_
      generalize hy16 : (((p3.toUInt32 >>> ((16 : Int32) &&& 31).toUInt32).toInt32) : Int32) = y16
      refine GoS.of (T' := T167) (f' := (mkF m 73 #[.val (.int p0), .val (.int p1), .val (.int p2), .val (.int p3), .val (.ref s_FIFO), .val (.int (0 : Int32)), .val (.ref b152), .val (.ref b159), .unset, .unset, .unset] [(.int (255 : Int32)), (.int y16), (.int (0 : Int32)), (.ref b167), (.ref b167)])) (fun _ k => XS.sipush X167.here hx rfl (hb hby at_70) k) ?_
      refine GoS.of (T' := T167) (f' := (mkF m 74 #[.val (.int p0), .val (.int p1), .val (.int p2), .val (.int p3), .val (.ref s_FIFO), .val (.int (0 : Int32)), .val (.ref b152), .val (.ref b159), .unset, .unset, .unset] [(.int (y16 &&& (255 : Int32))), (.int (0 : Int32)), (.ref b167), (.ref b167)])) (fun _ k => XS.iand X167.here hx rfl (hb hby at_73) rfl k) ?_
      refine GoS.of (T' := T167) (f' := (mkF m 75 #[.val (.int p0), .val (.int p1), .val (.int p2), .val (.int p3), .val (.ref s_FIFO), .val (.int (0 : Int32)), .val (.ref b152), .val (.ref b159), .unset, .unset, .unset] [(.int ((y16 &&& (255 : Int32)).toUInt32.toUInt16.toUInt32.toInt32)), (.int (0 : Int32)), (.ref b167), (.ref b167)])) (fun _ k => XS.i2c X167.here hx rfl (hb hby at_74) rfl k) ?_
      obtain ⟨cl173, Ar173, qk173, S173, Ng173, H173, G173⟩ := id f172
      obtain ⟨T173, h173, X173, e173, W173, st173⟩ := stC X167 hx hZ e167 Ar173 (j := (0 : Int32)) (inb_of S173 ⟨by decide, by decide⟩) (g := (mkF m 75 #[.val (.int p0), .val (.int p1), .val (.int p2), .val (.int p3), .val (.ref s_FIFO), .val (.int (0 : Int32)), .val (.ref b152), .val (.ref b159), .unset, .unset, .unset] [(.int ((y16 &&& (255 : Int32)).toUInt32.toUInt16.toUInt32.toInt32)), (.int (0 : Int32)), (.ref b167), (.ref b167)])) rfl rfl (hb hby at_75)
      have W173 : Wr h167 h173 b167 ((0 : Int32)).toNatClampNeg (.int (y16 &&& (255 : Int32))) := Eq.mp (congrArg (fun z => Wr h167 h173 b167 ((0 : Int32)).toNatClampNeg (Value.int z)) (own_c255 y16)) W173
      have O175 := Old0.wr O171 W173 g_b167
      have K175 := Keep.wr K171 W173 (Or.inr z_b167)
      have C174 := CHr.trans C170 (CHr.wr W173 (Safe.exa hZ.alike A167 (by decide) (by decide)) C170.1)
      have hk := Nat.le_trans hk (Keep.of_wr W173).1
      have f173 : Arv Z h173 b167 k167 .char (1 : Int32) [(.int (y16 &&& (255 : Int32)))] (.int (0 : Int32)) := Arv.set Ar173 qk173 S173 Ng173 H173 G173 (v := (.int (y16 &&& (255 : Int32)))) (own_f255 y16) W173 0 rfl (Nat.le_of_ble_eq_true rfl)
      have N173 := Fr.snoc X173 N164 g_b167
      refine GoS.of (T' := T173) (f' := (mkF m 76 #[.val (.int p0), .val (.int p1), .val (.int p2), .val (.int p3), .val (.ref s_FIFO), .val (.int (0 : Int32)), .val (.ref b152), .val (.ref b159), .unset, .unset, .unset] [(.ref b167)])) (fun _ k => st173 _ k) ?_
      refine GoS.of (T' := T173) (f' := (mkF m 78 #[.val (.int p0), .val (.int p1), .val (.int p2), .val (.int p3), .val (.ref s_FIFO), .val (.int (0 : Int32)), .val (.ref b152), .val (.ref b159), .val (.ref b167), .unset, .unset] [])) (fun _ k => XS.astore X173.here hx rfl (hb hby at_76) rfl rfl (l' := #[.val (.int p0), .val (.int p1), .val (.int p2), .val (.int p3), .val (.ref s_FIFO), .val (.int (0 : Int32)), .val (.ref b152), .val (.ref b159), .val (.ref b167), .unset, .unset]) rfl k) ?_
      have f177 : Exa Z h173 b152 "[C" := (Exa.wr W173 (Exa.ext E167 f168))
      have f178 : Exa Z h173 b159 "[C" := (Exa.wr W173 (Exa.ext E167 f169))
      have f179 : Exa Z h173 b167 "[C" := (Exa.wr W173 A167)
      obtain ⟨T176, h176, b176, q176, X176, e176, E176, A176, D176, st176⟩ := newOb X173 hx hZ hown (hw _ (List.mem_of_getElem? (i := 4) rfl)) (hw _ (List.mem_of_getElem? (i := 5) rfl)) (hw _ (List.mem_of_getElem? (i := 6) rfl)) e173 (g := (mkF m 78 #[.val (.int p0), .val (.int p1), .val (.int p2), .val (.int p3), .val (.ref s_FIFO), .val (.int (0 : Int32)), .val (.ref b152), .val (.ref b159), .val (.ref b167), .unset, .unset] [])) rfl (hb hby at_78) (by decide) (by decide)
      have O181 := Old0.ext O175 E176
      have K181 := Keep.ext K175 E176
      have C180 := CHr.trans C174 (CHr.ext E176 C174.1)
      have hk := Nat.le_trans hk E176.1
      have g_b176 : Z.heap.size ≤ b176 := q176 ▸ O175.1
      have z_b176 : h0.size ≤ b176 := q176 ▸ K175.1
      have ne_b152_b176 : b152 ≠ b176 := q176 ▸ Nat.ne_of_lt f177.lt
      have ne_b159_b176 : b159 ≠ b176 := q176 ▸ Nat.ne_of_lt f178.lt
      have ne_b167_b176 : b167 ≠ b176 := q176 ▸ Nat.ne_of_lt f179.lt
      have f182 : Fld Z h176 b176 "com/example/mailroom/mailroom/core/Envelope" "sender" "Ljava/lang/String;" .null := D176 (Or.inr (hw _ (List.mem_of_getElem? (i := 63) rfl))) (ty := (.object "java/lang/String")) (by decide)
      have f183 : Fld Z h176 b176 "com/example/mailroom/mailroom/core/Envelope" "receiver" "Ljava/lang/String;" .null := D176 (Or.inr (hw _ (List.mem_of_getElem? (i := 65) rfl))) (ty := (.object "java/lang/String")) (by decide)
      have f184 : Fld Z h176 b176 "com/example/mailroom/mailroom/core/Envelope" "number" "I" (.int (0 : Int32)) := D176 (Or.inr (hw _ (List.mem_of_getElem? (i := 67) rfl))) (ty := .int) (by decide)
      have f185 : Fld Z h176 b176 "com/example/mailroom/mailroom/core/Envelope" "message" "Ljava/lang/Object;" .null := D176 (Or.inr (hw _ (List.mem_of_getElem? (i := 69) rfl))) (ty := (.object "java/lang/Object")) (by decide)
      have f186 : Fld Z h176 b176 "com/example/mailroom/mailroom/core/Envelope" "replyTo" "Ljava/lang/String;" .null := D176 (Or.inr (hw _ (List.mem_of_getElem? (i := 71) rfl))) (ty := (.object "java/lang/String")) (by decide)
      have f187 : Fld Z h176 b176 "com/example/mailroom/mailroom/core/Envelope" "scheduled" "Z" (.int (0 : Int32)) := D176 (Or.inr (hw _ (List.mem_of_getElem? (i := 73) rfl))) (ty := .boolean) (by decide)
      refine GoS.of (T' := T176) (f' := (mkF m 81 #[.val (.int p0), .val (.int p1), .val (.int p2), .val (.int p3), .val (.ref s_FIFO), .val (.int (0 : Int32)), .val (.ref b152), .val (.ref b159), .val (.ref b167), .unset, .unset] [(.ref b176)])) (fun _ k => st176 _ k) ?_
      refine GoS.of (T' := T176) (f' := (mkF m 82 #[.val (.int p0), .val (.int p1), .val (.int p2), .val (.int p3), .val (.ref s_FIFO), .val (.int (0 : Int32)), .val (.ref b152), .val (.ref b159), .val (.ref b167), .unset, .unset] [(.ref b176), (.ref b176)])) (fun _ k => XS.dup X176.here hx rfl (hb hby at_81) rfl rfl k) ?_
      have f189 : Exa Z h176 b152 "[C" := (Exa.ext E176 f177)
      have f190 : Exa Z h176 b159 "[C" := (Exa.ext E176 f178)
      have f191 : Exa Z h176 b167 "[C" := (Exa.ext E176 f179)
      obtain ⟨T188, h188, b188, q188, X188, e188, E188, A188, D188, st188⟩ := newOb X176 hx hZ hown (hw _ (List.mem_of_getElem? (i := 7) rfl)) (hw _ (List.mem_of_getElem? (i := 8) rfl)) (hw _ (List.mem_of_getElem? (i := 9) rfl)) e176 (g := (mkF m 82 #[.val (.int p0), .val (.int p1), .val (.int p2), .val (.int p3), .val (.ref s_FIFO), .val (.int (0 : Int32)), .val (.ref b152), .val (.ref b159), .val (.ref b167), .unset, .unset] [(.ref b176), (.ref b176)])) rfl (hb hby at_82) (by decide) (by decide)
      have O193 := Old0.ext O181 E188
      have K193 := Keep.ext K181 E188
      have C192 := CHr.trans C180 (CHr.ext E188 C180.1)
      have hk := Nat.le_trans hk E188.1
      have g_b188 : Z.heap.size ≤ b188 := q188 ▸ O181.1
      have z_b188 : h0.size ≤ b188 := q188 ▸ K181.1
      have ne_b152_b188 : b152 ≠ b188 := q188 ▸ Nat.ne_of_lt f189.lt
      have ne_b159_b188 : b159 ≠ b188 := q188 ▸ Nat.ne_of_lt f190.lt
      have ne_b167_b188 : b167 ≠ b188 := q188 ▸ Nat.ne_of_lt f191.lt
      have ne_b176_b188 : b176 ≠ b188 := q188 ▸ Nat.ne_of_lt A176.lt
      have f194 : Fld Z h188 b188 "java/lang/String" "coder" "B" (.int (0 : Int32)) := D188 (Or.inr (hw _ (List.mem_of_getElem? (i := 33) rfl))) (ty := .byte) (by decide)
      have f195 : Fld Z h188 b188 "java/lang/String" "value" "[B" .null := D188 (Or.inr (hw _ (List.mem_of_getElem? (i := 35) rfl))) (ty := (.array .byte)) (by decide)
      refine GoS.of (T' := T188) (f' := (mkF m 85 #[.val (.int p0), .val (.int p1), .val (.int p2), .val (.int p3), .val (.ref s_FIFO), .val (.int (0 : Int32)), .val (.ref b152), .val (.ref b159), .val (.ref b167), .unset, .unset] [(.ref b188), (.ref b176), (.ref b176)])) (fun _ k => st188 _ k) ?_
      refine GoS.of (T' := T188) (f' := (mkF m 86 #[.val (.int p0), .val (.int p1), .val (.int p2), .val (.int p3), .val (.ref s_FIFO), .val (.int (0 : Int32)), .val (.ref b152), .val (.ref b159), .val (.ref b167), .unset, .unset] [(.ref b188), (.ref b188), (.ref b176), (.ref b176)])) (fun _ k => XS.dup X188.here hx rfl (hb hby at_85) rfl rfl k) ?_
      refine GoS.of (T' := T188) (f' := (mkF m 88 #[.val (.int p0), .val (.int p1), .val (.int p2), .val (.int p3), .val (.ref s_FIFO), .val (.int (0 : Int32)), .val (.ref b152), .val (.ref b159), .val (.ref b167), .unset, .unset] [(.ref b152), (.ref b188), (.ref b188), (.ref b176), (.ref b176)])) (fun _ k => XS.aload X188.here hx rfl (hb hby at_86) rfl rfl k) ?_
      have f197 : Arv Z h188 b152 k152 .char (1 : Int32) [(.int (p3 &&& (255 : Int32)))] (.int (0 : Int32)) := (Arv.ext (Arv.ext (Arv.other (Arv.ext (Arv.other (Arv.ext f156 E159) W164 ne_b152_b159) E167) W173 ne_b152_b167) E176) E188)
      have f198 : Exa Z h188 b152 "[C" := (Exa.ext E188 f189)
      have f199 : Exa Z h188 b159 "[C" := (Exa.ext E188 f190)
      have f200 : Exa Z h188 b167 "[C" := (Exa.ext E188 f191)
      have f201 : Exa Z h188 b176 "com/example/mailroom/mailroom/core/Envelope" := (Exa.ext E188 A176)
      obtain ⟨T196, v196, L196, X196, q196, st196⟩ := callNew X188 hx hZ (y := (⟨"java/lang/String", "<init>", "([C)V"⟩ : MethodName)) rfl hown (hw _ (List.mem_of_getElem? (i := 10) rfl)) (hw _ (List.mem_of_getElem? (i := 11) rfl)) (hw _ (List.mem_of_getElem? (i := 9) rfl)) (hw _ (List.mem_of_getElem? (i := 12) rfl)) (by decide) (rm_str_1 hw G b188 b152 k152 ((p3 &&& (255 : Int32))) h188 O193 (own_le255 _) A188 f195 f194 g_b188 f197 (Ne.symm ne_b152_b188)) e188 (W := 3) (by decide) (by decide) (by decide) (by decide) (g := (mkF m 88 #[.val (.int p0), .val (.int p1), .val (.int p2), .val (.int p3), .val (.ref s_FIFO), .val (.int (0 : Int32)), .val (.ref b152), .val (.ref b159), .val (.ref b167), .unset, .unset] [(.ref b152), (.ref b188), (.ref b188), (.ref b176), (.ref b176)])) rfl (by rw [hml]; rfl) (a := b188) (argsL := [(.ref b152)]) (rest := [(.ref b188), (.ref b176), (.ref b176)]) (lenOf pd___C_V rfl) rfl rfl (by show 2 * 0 + _ ≤ _; exact Nat.le_of_eq rfl) (hb hby at_88)
      obtain ⟨da_196, kd_196, rfl, N196q, K196q, p196_0, p196_1, p196_2, p196_3, p196_4⟩ := q196
      have N196 := Fr.app N173 N196q
      have sf203 : Safe Z own_EL s.vm h188 b188 := (Safe.ext E188 C180.1 (Safe.new (Nat.le_of_eq q188.symm)))
      have O204 := Old0.keep O193 K196q (allS g_b188 all0)
      have K204 := Keep.trans K193 K196q (allS (Or.inr z_b188) all0)
      have C202 := CHr.trans C192 (CHr.keep K196q (sfS sf203 sf0) C192.1)
      have hk := Nat.le_trans hk K196q.1
      have z_da_196 : h0.size ≤ da_196 := Nat.le_trans K193.1 p196_0
      have g_da_196 : Z.heap.size ≤ da_196 := Nat.le_trans O193.1 p196_0
      have ne_b152_da_196 : b152 ≠ da_196 := Nat.ne_of_lt (Nat.lt_of_lt_of_le f198.lt p196_0)
      have ne_b159_da_196 : b159 ≠ da_196 := Nat.ne_of_lt (Nat.lt_of_lt_of_le f199.lt p196_0)
      have ne_b167_da_196 : b167 ≠ da_196 := Nat.ne_of_lt (Nat.lt_of_lt_of_le f200.lt p196_0)
      have ne_b176_da_196 : b176 ≠ da_196 := Nat.ne_of_lt (Nat.lt_of_lt_of_le f201.lt p196_0)
      have ne_b188_da_196 : b188 ≠ da_196 := Nat.ne_of_lt (Nat.lt_of_lt_of_le A188.lt p196_0)
      refine GoS.of (T' := T196) (f' := (mkF m 91 #[.val (.int p0), .val (.int p1), .val (.int p2), .val (.int p3), .val (.ref s_FIFO), .val (.int (0 : Int32)), .val (.ref b152), .val (.ref b159), .val (.ref b167), .unset, .unset] [(.ref b188), (.ref b176), (.ref b176)])) (fun _ k => st196 _ k) ?_
      have f206 : Exa Z T196.heap b152 "[C" := (Exa.keep f198 K196q)
      have f207 : Exa Z T196.heap b159 "[C" := (Exa.keep f199 K196q)
      have f208 : Exa Z T196.heap b167 "[C" := (Exa.keep f200 K196q)
      have f209 : Exa Z T196.heap b176 "com/example/mailroom/mailroom/core/Envelope" := (Exa.keep f201 K196q)
      have f210 : Exa Z T196.heap b188 "java/lang/String" := (Exa.keep A188 K196q)
      obtain ⟨T205, h205, b205, q205, X205, e205, E205, A205, D205, st205⟩ := newOb X196 hx hZ hown (hw _ (List.mem_of_getElem? (i := 7) rfl)) (hw _ (List.mem_of_getElem? (i := 8) rfl)) (hw _ (List.mem_of_getElem? (i := 9) rfl)) rfl (g := (mkF m 91 #[.val (.int p0), .val (.int p1), .val (.int p2), .val (.int p3), .val (.ref s_FIFO), .val (.int (0 : Int32)), .val (.ref b152), .val (.ref b159), .val (.ref b167), .unset, .unset] [(.ref b188), (.ref b176), (.ref b176)])) rfl (hb hby at_91) (by decide) (by decide)
      have O212 := Old0.ext O204 E205
      have K212 := Keep.ext K204 E205
      have C211 := CHr.trans C202 (CHr.ext E205 C202.1)
      have hk := Nat.le_trans hk E205.1
      have g_b205 : Z.heap.size ≤ b205 := q205 ▸ O204.1
      have z_b205 : h0.size ≤ b205 := q205 ▸ K204.1
      have ne_b152_b205 : b152 ≠ b205 := q205 ▸ Nat.ne_of_lt f206.lt
      have ne_b159_b205 : b159 ≠ b205 := q205 ▸ Nat.ne_of_lt f207.lt
      have ne_b167_b205 : b167 ≠ b205 := q205 ▸ Nat.ne_of_lt f208.lt
      have ne_b176_b205 : b176 ≠ b205 := q205 ▸ Nat.ne_of_lt f209.lt
      have ne_b188_b205 : b188 ≠ b205 := q205 ▸ Nat.ne_of_lt f210.lt
      have ne_da_196_b205 : da_196 ≠ b205 := q205 ▸ Nat.ne_of_lt p196_4.lt
      have f213 : Fld Z h205 b205 "java/lang/String" "coder" "B" (.int (0 : Int32)) := D205 (Or.inr (hw _ (List.mem_of_getElem? (i := 33) rfl))) (ty := .byte) (by decide)
      have f214 : Fld Z h205 b205 "java/lang/String" "value" "[B" .null := D205 (Or.inr (hw _ (List.mem_of_getElem? (i := 35) rfl))) (ty := (.array .byte)) (by decide)
      refine GoS.of (T' := T205) (f' := (mkF m 94 #[.val (.int p0), .val (.int p1), .val (.int p2), .val (.int p3), .val (.ref s_FIFO), .val (.int (0 : Int32)), .val (.ref b152), .val (.ref b159), .val (.ref b167), .unset, .unset] [(.ref b205), (.ref b188), (.ref b176), (.ref b176)])) (fun _ k => st205 _ k) ?_
      refine GoS.of (T' := T205) (f' := (mkF m 95 #[.val (.int p0), .val (.int p1), .val (.int p2), .val (.int p3), .val (.ref s_FIFO), .val (.int (0 : Int32)), .val (.ref b152), .val (.ref b159), .val (.ref b167), .unset, .unset] [(.ref b205), (.ref b205), (.ref b188), (.ref b176), (.ref b176)])) (fun _ k => XS.dup X205.here hx rfl (hb hby at_94) rfl rfl k) ?_
      refine GoS.of (T' := T205) (f' := (mkF m 97 #[.val (.int p0), .val (.int p1), .val (.int p2), .val (.int p3), .val (.ref s_FIFO), .val (.int (0 : Int32)), .val (.ref b152), .val (.ref b159), .val (.ref b167), .unset, .unset] [(.ref b159), (.ref b205), (.ref b205), (.ref b188), (.ref b176), (.ref b176)])) (fun _ k => XS.aload X205.here hx rfl (hb hby at_95) rfl rfl k) ?_
      have f216 : Arv Z h205 b159 k159 .char (1 : Int32) [(.int (y8 &&& (255 : Int32)))] (.int (0 : Int32)) := (Arv.ext (Arv.keep (Arv.ext (Arv.ext (Arv.other (Arv.ext f164 E167) W173 ne_b159_b167) E176) E188) K196q (ninS ne_b159_b188 nin0)) E205)
      have f217 : Exa Z h205 b152 "[C" := (Exa.ext E205 f206)
      have f218 : Exa Z h205 b159 "[C" := (Exa.ext E205 f207)
      have f219 : Exa Z h205 b167 "[C" := (Exa.ext E205 f208)
      have f220 : Exa Z h205 b176 "com/example/mailroom/mailroom/core/Envelope" := (Exa.ext E205 f209)
      have f221 : Exa Z h205 b188 "java/lang/String" := (Exa.ext E205 f210)
      have f222 : Exa Z h205 da_196 "[B" := (Exa.ext E205 p196_4)
      obtain ⟨T215, v215, L215, X215, q215, st215⟩ := callNew X205 hx hZ (y := (⟨"java/lang/String", "<init>", "([C)V"⟩ : MethodName)) rfl hown (hw _ (List.mem_of_getElem? (i := 10) rfl)) (hw _ (List.mem_of_getElem? (i := 11) rfl)) (hw _ (List.mem_of_getElem? (i := 9) rfl)) (hw _ (List.mem_of_getElem? (i := 12) rfl)) (by decide) (rm_str_1 hw G b205 b159 k159 ((y8 &&& (255 : Int32))) h205 O212 (own_le255 _) A205 f214 f213 g_b205 f216 (Ne.symm ne_b159_b205)) e205 (W := 4) (by decide) (by decide) (by decide) (by decide) (g := (mkF m 97 #[.val (.int p0), .val (.int p1), .val (.int p2), .val (.int p3), .val (.ref s_FIFO), .val (.int (0 : Int32)), .val (.ref b152), .val (.ref b159), .val (.ref b167), .unset, .unset] [(.ref b159), (.ref b205), (.ref b205), (.ref b188), (.ref b176), (.ref b176)])) rfl (by rw [hml]; rfl) (a := b205) (argsL := [(.ref b159)]) (rest := [(.ref b205), (.ref b188), (.ref b176), (.ref b176)]) (lenOf pd___C_V rfl) rfl rfl (by show 2 * 0 + _ ≤ _; exact Nat.le_of_eq rfl) (hb hby at_97)
      obtain ⟨da_215, kd_215, rfl, N215q, K215q, p215_0, p215_1, p215_2, p215_3, p215_4⟩ := q215
      have N215 := Fr.app N196 N215q
      have sf224 : Safe Z own_EL s.vm h205 b205 := (Safe.ext E205 C202.1 (Safe.new (Nat.le_of_eq q205.symm)))
      have O225 := Old0.keep O212 K215q (allS g_b205 all0)
      have K225 := Keep.trans K212 K215q (allS (Or.inr z_b205) all0)
      have C223 := CHr.trans C211 (CHr.keep K215q (sfS sf224 sf0) C211.1)
      have hk := Nat.le_trans hk K215q.1
      have z_da_215 : h0.size ≤ da_215 := Nat.le_trans K212.1 p215_0
      have g_da_215 : Z.heap.size ≤ da_215 := Nat.le_trans O212.1 p215_0
      have ne_b152_da_215 : b152 ≠ da_215 := Nat.ne_of_lt (Nat.lt_of_lt_of_le f217.lt p215_0)
      have ne_b159_da_215 : b159 ≠ da_215 := Nat.ne_of_lt (Nat.lt_of_lt_of_le f218.lt p215_0)
      have ne_b167_da_215 : b167 ≠ da_215 := Nat.ne_of_lt (Nat.lt_of_lt_of_le f219.lt p215_0)
      have ne_b176_da_215 : b176 ≠ da_215 := Nat.ne_of_lt (Nat.lt_of_lt_of_le f220.lt p215_0)
      have ne_b188_da_215 : b188 ≠ da_215 := Nat.ne_of_lt (Nat.lt_of_lt_of_le f221.lt p215_0)
      have ne_da_196_da_215 : da_196 ≠ da_215 := Nat.ne_of_lt (Nat.lt_of_lt_of_le f222.lt p215_0)
      have ne_b205_da_215 : b205 ≠ da_215 := Nat.ne_of_lt (Nat.lt_of_lt_of_le A205.lt p215_0)
      refine GoS.of (T' := T215) (f' := (mkF m 100 #[.val (.int p0), .val (.int p1), .val (.int p2), .val (.int p3), .val (.ref s_FIFO), .val (.int (0 : Int32)), .val (.ref b152), .val (.ref b159), .val (.ref b167), .unset, .unset] [(.ref b205), (.ref b188), (.ref b176), (.ref b176)])) (fun _ k => st215 _ k) ?_
      refine GoS.of (T' := T215) (f' := (mkF m 101 #[.val (.int p0), .val (.int p1), .val (.int p2), .val (.int p3), .val (.ref s_FIFO), .val (.int (0 : Int32)), .val (.ref b152), .val (.ref b159), .val (.ref b167), .unset, .unset] [(.int p2), (.ref b205), (.ref b188), (.ref b176), (.ref b176)])) (fun _ k => XS.iloadN X215.here hx rfl (hb hby at_100) rfl k) ?_
      refine GoS.of (T' := T215) (f' := (mkF m 102 #[.val (.int p0), .val (.int p1), .val (.int p2), .val (.int p3), .val (.ref s_FIFO), .val (.int (0 : Int32)), .val (.ref b152), .val (.ref b159), .val (.ref b167), .unset, .unset] [(.int p1), (.int p2), (.ref b205), (.ref b188), (.ref b176), (.ref b176)])) (fun _ k => XS.iloadN X215.here hx rfl (hb hby at_101) rfl k) ?_
      obtain ⟨T226, v226, L226, X226, q226, st226⟩ := callSt X215 hx hZ (y := (⟨"java/lang/Integer", "valueOf", "(I)Ljava/lang/Integer;"⟩ : MethodName)) hown (hw _ (List.mem_of_getElem? (i := 36) rfl)) (hw _ (List.mem_of_getElem? (i := 37) rfl)) (hw _ (List.mem_of_getElem? (i := 38) rfl)) (hw _ (List.mem_of_getElem? (i := 39) rfl)) (by decide) (rm_valueOf hw G p1  T215.heap O225 ) rfl (W := 5) (by decide) (by decide) (by decide) (by decide) (g := (mkF m 102 #[.val (.int p0), .val (.int p1), .val (.int p2), .val (.int p3), .val (.ref s_FIFO), .val (.int (0 : Int32)), .val (.ref b152), .val (.ref b159), .val (.ref b167), .unset, .unset] [(.int p1), (.int p2), (.ref b205), (.ref b188), (.ref b176), (.ref b176)])) rfl (by rw [hml]; rfl) (argsL := [(.int p1)]) (rest := [(.int p2), (.ref b205), (.ref b188), (.ref b176), (.ref b176)]) (lenOf pd__I_Ljava_lang_Integer_ rfl) rfl rfl (by show 2 * 0 + _ ≤ _; exact Nat.le_of_eq rfl) (hb hby at_102)
      obtain ⟨r_226, rfl, N226q, K226q⟩ := q226
      have N226 := Fr.app N215 N226q
      have O228 := Old0.keep O225 K226q all0
      have K228 := Keep.trans K225 K226q all0
      have C227 := CHr.trans C223 (CHr.keep K226q sf0 C223.1)
      have hk := Nat.le_trans hk K226q.1
      refine GoS.of (T' := T226) (f' := (mkF m 105 #[.val (.int p0), .val (.int p1), .val (.int p2), .val (.int p3), .val (.ref s_FIFO), .val (.int (0 : Int32)), .val (.ref b152), .val (.ref b159), .val (.ref b167), .unset, .unset] [(.ref r_226), (.int p2), (.ref b205), (.ref b188), (.ref b176), (.ref b176)])) (fun _ k => st226 _ k) ?_
      have f230 : Exa Z T226.heap b152 "[C" := (Exa.keep (Exa.keep f217 K215q) K226q)
      have f231 : Exa Z T226.heap b159 "[C" := (Exa.keep (Exa.keep f218 K215q) K226q)
      have f232 : Exa Z T226.heap b167 "[C" := (Exa.keep (Exa.keep f219 K215q) K226q)
      have f233 : Exa Z T226.heap b176 "com/example/mailroom/mailroom/core/Envelope" := (Exa.keep (Exa.keep f220 K215q) K226q)
      have f234 : Exa Z T226.heap b188 "java/lang/String" := (Exa.keep (Exa.keep f221 K215q) K226q)
      have f235 : Exa Z T226.heap da_196 "[B" := (Exa.keep (Exa.keep f222 K215q) K226q)
      have f236 : Exa Z T226.heap b205 "java/lang/String" := (Exa.keep (Exa.keep A205 K215q) K226q)
      have f237 : Exa Z T226.heap da_215 "[B" := (Exa.keep p215_4 K226q)
      obtain ⟨T229, h229, b229, q229, X229, e229, E229, A229, D229, st229⟩ := newOb X226 hx hZ hown (hw _ (List.mem_of_getElem? (i := 7) rfl)) (hw _ (List.mem_of_getElem? (i := 8) rfl)) (hw _ (List.mem_of_getElem? (i := 9) rfl)) rfl (g := (mkF m 105 #[.val (.int p0), .val (.int p1), .val (.int p2), .val (.int p3), .val (.ref s_FIFO), .val (.int (0 : Int32)), .val (.ref b152), .val (.ref b159), .val (.ref b167), .unset, .unset] [(.ref r_226), (.int p2), (.ref b205), (.ref b188), (.ref b176), (.ref b176)])) rfl (hb hby at_105) (by decide) (by decide)
      have O239 := Old0.ext O228 E229
      have K239 := Keep.ext K228 E229
      have C238 := CHr.trans C227 (CHr.ext E229 C227.1)
      have hk := Nat.le_trans hk E229.1
      have g_b229 : Z.heap.size ≤ b229 := q229 ▸ O228.1
      have z_b229 : h0.size ≤ b229 := q229 ▸ K228.1
      have ne_b152_b229 : b152 ≠ b229 := q229 ▸ Nat.ne_of_lt f230.lt
      have ne_b159_b229 : b159 ≠ b229 := q229 ▸ Nat.ne_of_lt f231.lt
      have ne_b167_b229 : b167 ≠ b229 := q229 ▸ Nat.ne_of_lt f232.lt
      have ne_b176_b229 : b176 ≠ b229 := q229 ▸ Nat.ne_of_lt f233.lt
      have ne_b188_b229 : b188 ≠ b229 := q229 ▸ Nat.ne_of_lt f234.lt
      have ne_da_196_b229 : da_196 ≠ b229 := q229 ▸ Nat.ne_of_lt f235.lt
      have ne_b205_b229 : b205 ≠ b229 := q229 ▸ Nat.ne_of_lt f236.lt
      have ne_da_215_b229 : da_215 ≠ b229 := q229 ▸ Nat.ne_of_lt f237.lt
      have f240 : Fld Z h229 b229 "java/lang/String" "coder" "B" (.int (0 : Int32)) := D229 (Or.inr (hw _ (List.mem_of_getElem? (i := 33) rfl))) (ty := .byte) (by decide)
      have f241 : Fld Z h229 b229 "java/lang/String" "value" "[B" .null := D229 (Or.inr (hw _ (List.mem_of_getElem? (i := 35) rfl))) (ty := (.array .byte)) (by decide)
      refine GoS.of (T' := T229) (f' := (mkF m 108 #[.val (.int p0), .val (.int p1), .val (.int p2), .val (.int p3), .val (.ref s_FIFO), .val (.int (0 : Int32)), .val (.ref b152), .val (.ref b159), .val (.ref b167), .unset, .unset] [(.ref b229), (.ref r_226), (.int p2), (.ref b205), (.ref b188), (.ref b176), (.ref b176)])) (fun _ k => st229 _ k) ?_
      refine GoS.of (T' := T229) (f' := (mkF m 109 #[.val (.int p0), .val (.int p1), .val (.int p2), .val (.int p3), .val (.ref s_FIFO), .val (.int (0 : Int32)), .val (.ref b152), .val (.ref b159), .val (.ref b167), .unset, .unset] [(.ref b229), (.ref b229), (.ref r_226), (.int p2), (.ref b205), (.ref b188), (.ref b176), (.ref b176)])) (fun _ k => XS.dup X229.here hx rfl (hb hby at_108) rfl rfl k) ?_
      refine GoS.of (T' := T229) (f' := (mkF m 111 #[.val (.int p0), .val (.int p1), .val (.int p2), .val (.int p3), .val (.ref s_FIFO), .val (.int (0 : Int32)), .val (.ref b152), .val (.ref b159), .val (.ref b167), .unset, .unset] [(.ref b167), (.ref b229), (.ref b229), (.ref r_226), (.int p2), (.ref b205), (.ref b188), (.ref b176), (.ref b176)])) (fun _ k => XS.aload X229.here hx rfl (hb hby at_109) rfl rfl k) ?_
      have f243 : Arv Z h229 b167 k167 .char (1 : Int32) [(.int (y16 &&& (255 : Int32)))] (.int (0 : Int32)) := (Arv.ext (Arv.keep (Arv.keep (Arv.ext (Arv.keep (Arv.ext (Arv.ext f173 E176) E188) K196q (ninS ne_b167_b188 nin0)) E205) K215q (ninS ne_b167_b205 nin0)) K226q nin0) E229)
      have f244 : Exa Z h229 b152 "[C" := (Exa.ext E229 f230)
      have f245 : Exa Z h229 b159 "[C" := (Exa.ext E229 f231)
      have f246 : Exa Z h229 b167 "[C" := (Exa.ext E229 f232)
      have f247 : Exa Z h229 b176 "com/example/mailroom/mailroom/core/Envelope" := (Exa.ext E229 f233)
      have f248 : Exa Z h229 b188 "java/lang/String" := (Exa.ext E229 f234)
      have f249 : Exa Z h229 da_196 "[B" := (Exa.ext E229 f235)
      have f250 : Exa Z h229 b205 "java/lang/String" := (Exa.ext E229 f236)
      have f251 : Exa Z h229 da_215 "[B" := (Exa.ext E229 f237)
      obtain ⟨T242, v242, L242, X242, q242, st242⟩ := callNew X229 hx hZ (y := (⟨"java/lang/String", "<init>", "([C)V"⟩ : MethodName)) rfl hown (hw _ (List.mem_of_getElem? (i := 10) rfl)) (hw _ (List.mem_of_getElem? (i := 11) rfl)) (hw _ (List.mem_of_getElem? (i := 9) rfl)) (hw _ (List.mem_of_getElem? (i := 12) rfl)) (by decide) (rm_str_1 hw G b229 b167 k167 ((y16 &&& (255 : Int32))) h229 O239 (own_le255 _) A229 f241 f240 g_b229 f243 (Ne.symm ne_b167_b229)) e229 (W := 7) (by decide) (by decide) (by decide) (by decide) (g := (mkF m 111 #[.val (.int p0), .val (.int p1), .val (.int p2), .val (.int p3), .val (.ref s_FIFO), .val (.int (0 : Int32)), .val (.ref b152), .val (.ref b159), .val (.ref b167), .unset, .unset] [(.ref b167), (.ref b229), (.ref b229), (.ref r_226), (.int p2), (.ref b205), (.ref b188), (.ref b176), (.ref b176)])) rfl (by rw [hml]; rfl) (a := b229) (argsL := [(.ref b167)]) (rest := [(.ref b229), (.ref r_226), (.int p2), (.ref b205), (.ref b188), (.ref b176), (.ref b176)]) (lenOf pd___C_V rfl) rfl rfl (by show 2 * 0 + _ ≤ _; exact Nat.le_of_eq rfl) (hb hby at_111)
      obtain ⟨da_242, kd_242, rfl, N242q, K242q, p242_0, p242_1, p242_2, p242_3, p242_4⟩ := q242
      have N242 := Fr.app N226 N242q
      have sf253 : Safe Z own_EL s.vm h229 b229 := (Safe.ext E229 C227.1 (Safe.new (Nat.le_of_eq q229.symm)))
      have O254 := Old0.keep O239 K242q (allS g_b229 all0)
      have K254 := Keep.trans K239 K242q (allS (Or.inr z_b229) all0)
      have C252 := CHr.trans C238 (CHr.keep K242q (sfS sf253 sf0) C238.1)
      have hk := Nat.le_trans hk K242q.1
      have z_da_242 : h0.size ≤ da_242 := Nat.le_trans K239.1 p242_0
      have g_da_242 : Z.heap.size ≤ da_242 := Nat.le_trans O239.1 p242_0
      have ne_b152_da_242 : b152 ≠ da_242 := Nat.ne_of_lt (Nat.lt_of_lt_of_le f244.lt p242_0)
      have ne_b159_da_242 : b159 ≠ da_242 := Nat.ne_of_lt (Nat.lt_of_lt_of_le f245.lt p242_0)
      have ne_b167_da_242 : b167 ≠ da_242 := Nat.ne_of_lt (Nat.lt_of_lt_of_le f246.lt p242_0)
      have ne_b176_da_242 : b176 ≠ da_242 := Nat.ne_of_lt (Nat.lt_of_lt_of_le f247.lt p242_0)
      have ne_b188_da_242 : b188 ≠ da_242 := Nat.ne_of_lt (Nat.lt_of_lt_of_le f248.lt p242_0)
      have ne_da_196_da_242 : da_196 ≠ da_242 := Nat.ne_of_lt (Nat.lt_of_lt_of_le f249.lt p242_0)
      have ne_b205_da_242 : b205 ≠ da_242 := Nat.ne_of_lt (Nat.lt_of_lt_of_le f250.lt p242_0)
      have ne_da_215_da_242 : da_215 ≠ da_242 := Nat.ne_of_lt (Nat.lt_of_lt_of_le f251.lt p242_0)
      have ne_b229_da_242 : b229 ≠ da_242 := Nat.ne_of_lt (Nat.lt_of_lt_of_le A229.lt p242_0)
      refine GoS.of (T' := T242) (f' := (mkF m 114 #[.val (.int p0), .val (.int p1), .val (.int p2), .val (.int p3), .val (.ref s_FIFO), .val (.int (0 : Int32)), .val (.ref b152), .val (.ref b159), .val (.ref b167), .unset, .unset] [(.ref b229), (.ref r_226), (.int p2), (.ref b205), (.ref b188), (.ref b176), (.ref b176)])) (fun _ k => st242 _ k) ?_
      refine GoS.of (T' := T242) (f' := (mkF m 116 #[.val (.int p0), .val (.int p1), .val (.int p2), .val (.int p3), .val (.ref s_FIFO), .val (.int (0 : Int32)), .val (.ref b152), .val (.ref b159), .val (.ref b167), .unset, .unset] [(.int (0 : Int32)), (.ref b229), (.ref r_226), (.int p2), (.ref b205), (.ref b188), (.ref b176), (.ref b176)])) (fun _ k => XS.iload X242.here hx rfl (hb hby at_114) rfl k) ?_
      have f256 : Exa Z T242.heap b176 "com/example/mailroom/mailroom/core/Envelope" := (Exa.keep f247 K242q)
      have f257 : Fld Z T242.heap b176 "com/example/mailroom/mailroom/core/Envelope" "sender" "Ljava/lang/String;" .null := (Fld.keep (Fld.ext E229 (Fld.keep (Fld.keep (Fld.ext E205 (Fld.keep (Fld.ext E188 f182) K196q (ninS ne_b176_b188 nin0))) K215q (ninS ne_b176_b205 nin0)) K226q nin0)) K242q (ninS ne_b176_b229 nin0))
      have f258 : Fld Z T242.heap b176 "com/example/mailroom/mailroom/core/Envelope" "receiver" "Ljava/lang/String;" .null := (Fld.keep (Fld.ext E229 (Fld.keep (Fld.keep (Fld.ext E205 (Fld.keep (Fld.ext E188 f183) K196q (ninS ne_b176_b188 nin0))) K215q (ninS ne_b176_b205 nin0)) K226q nin0)) K242q (ninS ne_b176_b229 nin0))
      have f259 : Fld Z T242.heap b176 "com/example/mailroom/mailroom/core/Envelope" "number" "I" (.int (0 : Int32)) := (Fld.keep (Fld.ext E229 (Fld.keep (Fld.keep (Fld.ext E205 (Fld.keep (Fld.ext E188 f184) K196q (ninS ne_b176_b188 nin0))) K215q (ninS ne_b176_b205 nin0)) K226q nin0)) K242q (ninS ne_b176_b229 nin0))
      have f260 : Fld Z T242.heap b176 "com/example/mailroom/mailroom/core/Envelope" "message" "Ljava/lang/Object;" .null := (Fld.keep (Fld.ext E229 (Fld.keep (Fld.keep (Fld.ext E205 (Fld.keep (Fld.ext E188 f185) K196q (ninS ne_b176_b188 nin0))) K215q (ninS ne_b176_b205 nin0)) K226q nin0)) K242q (ninS ne_b176_b229 nin0))
      have f261 : Fld Z T242.heap b176 "com/example/mailroom/mailroom/core/Envelope" "replyTo" "Ljava/lang/String;" .null := (Fld.keep (Fld.ext E229 (Fld.keep (Fld.keep (Fld.ext E205 (Fld.keep (Fld.ext E188 f186) K196q (ninS ne_b176_b188 nin0))) K215q (ninS ne_b176_b205 nin0)) K226q nin0)) K242q (ninS ne_b176_b229 nin0))
      have f262 : Fld Z T242.heap b176 "com/example/mailroom/mailroom/core/Envelope" "scheduled" "Z" (.int (0 : Int32)) := (Fld.keep (Fld.ext E229 (Fld.keep (Fld.keep (Fld.ext E205 (Fld.keep (Fld.ext E188 f187) K196q (ninS ne_b176_b188 nin0))) K215q (ninS ne_b176_b205 nin0)) K226q nin0)) K242q (ninS ne_b176_b229 nin0))
      obtain ⟨T255, v255, L255, X255, q255, hS, hg255, hZ, hown, Cq255, st255⟩ := callNewS X242 hx hZ (y := (⟨"com/example/mailroom/mailroom/core/Envelope", "<init>", "(Ljava/lang/String;Ljava/lang/String;ILjava/lang/Object;Ljava/lang/String;Z)V"⟩ : MethodName)) rfl hS hk hEL C252.1 hown (hw _ (List.mem_of_getElem? (i := 43) rfl)) (hw _ (List.mem_of_getElem? (i := 44) rfl)) (hw _ (List.mem_of_getElem? (i := 6) rfl)) (hw _ (List.mem_of_getElem? (i := 45) rfl)) (by decide) (rm_env0 hw G b176 b188 b205 p2 r_226 b229  T242.heap O254 f256 f257 f258 f259 f260 f261 f262 g_b176) rfl (W := 1) (by decide) (by decide) (by decide) (by decide) (g := (mkF m 116 #[.val (.int p0), .val (.int p1), .val (.int p2), .val (.int p3), .val (.ref s_FIFO), .val (.int (0 : Int32)), .val (.ref b152), .val (.ref b159), .val (.ref b167), .unset, .unset] [(.int (0 : Int32)), (.ref b229), (.ref r_226), (.int p2), (.ref b205), (.ref b188), (.ref b176), (.ref b176)])) rfl (by rw [hml]; rfl) (a := b176) (argsL := [(.ref b188), (.ref b205), (.int p2), (.ref r_226), (.ref b229), (.int (0 : Int32))]) (rest := [(.ref b176)]) (lenOf pd__Ljava_lang_String_Ljava_lang_String_ILjava_lang_Object_Ljava_lang_String_Z_V rfl) rfl rfl (by show 2 * 0 + _ ≤ _; exact Nat.le_of_eq rfl) (hb hby at_116)
      obtain ⟨rfl, N255q, K255q, p255_0⟩ := q255
      have N255 := Fr.app N242 N255q
      have O263 := Old0.keep O254 K255q (allS g_b176 all0)
      have K263 := Keep.trans K254 K255q (allS (Or.inr z_b176) all0)
      have C255 := CHr.trans C252 Cq255
      have hk := Nat.le_refl T255.heap.size
      refine GoS.of (T' := T255) (f' := (mkF m 119 #[.val (.int p0), .val (.int p1), .val (.int p2), .val (.int p3), .val (.ref s_FIFO), .val (.int (0 : Int32)), .val (.ref b152), .val (.ref b159), .val (.ref b167), .unset, .unset] [(.ref b176)])) (fun _ k => st255 _ k) ?_
      refine GoS.of (T' := T255) (f' := (mkF m 121 #[.val (.int p0), .val (.int p1), .val (.int p2), .val (.int p3), .val (.ref s_FIFO), .val (.int (0 : Int32)), .val (.ref b152), .val (.ref b159), .val (.ref b167), .val (.ref b176), .unset] [])) (fun _ k => XS.astore X255.here hx rfl (hb hby at_119) rfl rfl (l' := #[.val (.int p0), .val (.int p1), .val (.int p2), .val (.int p3), .val (.ref s_FIFO), .val (.int (0 : Int32)), .val (.ref b152), .val (.ref b159), .val (.ref b167), .val (.ref b176), .unset]) rfl k) ?_
      refine GoS.of (T' := T255) (f' := (mkF m 123 #[.val (.int p0), .val (.int p1), .val (.int p2), .val (.int p3), .val (.ref s_FIFO), .val (.int (0 : Int32)), .val (.ref b152), .val (.ref b159), .val (.ref b167), .val (.ref b176), .unset] [(.ref s_FIFO)])) (fun _ k => XS.aload X255.here hx rfl (hb hby at_121) rfl rfl k) ?_
      obtain ⟨T264, X264, e264, st264⟩ := getS2 X255 hx hZ hown (host := "") (Or.inl (hw _ (List.mem_of_getElem? (i := 0) rfl))) Via.refl rfl (Sta.ext O263 S_FIFO) (g := (mkF m 123 #[.val (.int p0), .val (.int p1), .val (.int p2), .val (.int p3), .val (.ref s_FIFO), .val (.int (0 : Int32)), .val (.ref b152), .val (.ref b159), .val (.ref b167), .val (.ref b176), .unset] [(.ref s_FIFO)])) rfl (hb hby at_123)
      refine GoS.of (T' := T264) (f' := (mkF m 126 #[.val (.int p0), .val (.int p1), .val (.int p2), .val (.int p3), .val (.ref s_FIFO), .val (.int (0 : Int32)), .val (.ref b152), .val (.ref b159), .val (.ref b167), .val (.ref b176), .unset] [(.ref s_FIFO), (.ref s_FIFO)])) (fun _ k => st264 _ k) ?_
      refine GoS.of (T' := T264) (f' := (mkF m 129 #[.val (.int p0), .val (.int p1), .val (.int p2), .val (.int p3), .val (.ref s_FIFO), .val (.int (0 : Int32)), .val (.ref b152), .val (.ref b159), .val (.ref b167), .val (.ref b176), .unset] [])) (fun _ k => Jvm.RoadKit.acmp (g := (mkF m 126 #[.val (.int p0), .val (.int p1), .val (.int p2), .val (.int p3), .val (.ref s_FIFO), .val (.int (0 : Int32)), .val (.ref b152), .val (.ref b159), .val (.ref b167), .val (.ref b176), .unset] [(.ref s_FIFO), (.ref s_FIFO)])) X264 hx rfl rfl rfl (pc0 := 126) (pc' := 129) (same := true) rfl (hb hby at_126) rfl (decide_eq_true rfl) (by decide) (by decide) k) ?_
      refine GoS.of (T' := T264) (f' := (mkF m 131 #[.val (.int p0), .val (.int p1), .val (.int p2), .val (.int p3), .val (.ref s_FIFO), .val (.int (0 : Int32)), .val (.ref b152), .val (.ref b159), .val (.ref b167), .val (.ref b176), .unset] [(.int (0 : Int32))])) (fun _ k => XS.iload X264.here hx rfl (hb hby at_129) rfl k) ?_
      refine GoS.of (T' := T264) (f' := (mkF m 134 #[.val (.int p0), .val (.int p1), .val (.int p2), .val (.int p3), .val (.ref s_FIFO), .val (.int (0 : Int32)), .val (.ref b152), .val (.ref b159), .val (.ref b167), .val (.ref b176), .unset] [])) (fun _ k => XS.ifNo X264.here hx rfl (hb hby at_131) rfl ((if0 _ _).trans (teq (by decide : (0 : Int32) = (0 : Int32))).2) k) ?_
      refine GoS.of (T' := T264) (f' := (mkF m 135 #[.val (.int p0), .val (.int p1), .val (.int p2), .val (.int p3), .val (.ref s_FIFO), .val (.int (0 : Int32)), .val (.ref b152), .val (.ref b159), .val (.ref b167), .val (.ref b176), .unset] [(.int (1 : Int32))])) (fun _ k => XS.iconst X264.here hx rfl (hb hby at_134) k) ?_
      refine GoS.of (T' := T264) (f' := (mkF m 139 #[.val (.int p0), .val (.int p1), .val (.int p2), .val (.int p3), .val (.ref s_FIFO), .val (.int (0 : Int32)), .val (.ref b152), .val (.ref b159), .val (.ref b167), .val (.ref b176), .unset] [(.int (1 : Int32))])) (fun _ k => XS.goto X264.here hx rfl (pc0 := 135) (pc' := 139) rfl (hb hby at_135) (by decide) (by decide) k) ?_
      refine GoS.of (T' := T264) (f' := (mkF m 141 #[.val (.int p0), .val (.int p1), .val (.int p2), .val (.int p3), .val (.ref s_FIFO), .val (.int (0 : Int32)), .val (.ref b152), .val (.ref b159), .val (.ref b167), .val (.ref b176), .val (.int (1 : Int32))] [])) (fun _ k => XS.istore X264.here hx rfl (hb hby at_139) rfl (l' := #[.val (.int p0), .val (.int p1), .val (.int p2), .val (.int p3), .val (.ref s_FIFO), .val (.int (0 : Int32)), .val (.ref b152), .val (.ref b159), .val (.ref b167), .val (.ref b176), .val (.int (1 : Int32))]) rfl k) ?_
      refine GoS.of (T' := T264) (f' := (mkF m 147 #[.val (.int p0), .val (.int p1), .val (.int p2), .val (.int p3), .val (.ref s_FIFO), .val (.int (0 : Int32)), .val (.ref b152), .val (.ref b159), .val (.ref b167), .val (.ref b176), .val (.int (1 : Int32))] [])) (fun _ k => XS.goto X264.here hx rfl (pc0 := 141) (pc' := 147) rfl (hb hby at_141) (by decide) (by decide) k) ?_
      refine GoS.of (T' := T264) (f' := (mkF m 149 #[.val (.int p0), .val (.int p1), .val (.int p2), .val (.int p3), .val (.ref s_FIFO), .val (.int (0 : Int32)), .val (.ref b152), .val (.ref b159), .val (.ref b167), .val (.ref b176), .val (.int (1 : Int32))] [(.ref s_FIFO)])) (fun _ k => XS.aload X264.here hx rfl (hb hby at_147) rfl rfl k) ?_
      refine GoS.of (T' := T264) (f' := (mkF m 151 #[.val (.int p0), .val (.int p1), .val (.int p2), .val (.int p3), .val (.ref s_FIFO), .val (.int (0 : Int32)), .val (.ref b152), .val (.ref b159), .val (.ref b167), .val (.ref b176), .val (.int (1 : Int32))] [(.ref b176), (.ref s_FIFO)])) (fun _ k => XS.aload X264.here hx rfl (hb hby at_149) rfl rfl k) ?_
      have f268 : Exa Z T255.heap b176 "com/example/mailroom/mailroom/core/Envelope" := (Exa.keep f256 K255q)
      obtain ⟨T267, v267, L267, X267, q267, st267⟩ := callVi X264 hx hZ (y := (⟨"com/example/mailroom/mailroom/core/Delivery", "holdsBack", "(Lcom/example/mailroom/mailroom/core/Envelope;)Z"⟩ : MethodName)) (z := (⟨"com/example/mailroom/mailroom/core/Delivery", "holdsBack", "(Lcom/example/mailroom/mailroom/core/Envelope;)Z"⟩ : MethodName)) hown (hw _ (List.mem_of_getElem? (i := 74) rfl)) (hw _ (List.mem_of_getElem? (i := 75) rfl)) (notFace_of_selects (args := #[]) (mvT hZ (hw _ (List.mem_of_getElem? (i := 77) rfl)))) (hw _ (List.mem_of_getElem? (i := 77) rfl)) (hw _ (List.mem_of_getElem? (i := 76) rfl)) (hw _ (List.mem_of_getElem? (i := 78) rfl)) (hw _ (List.mem_of_getElem? (i := 1) rfl)) (by decide) (rm_hold_FIFO0 hw G b176  T255.heap O263 f268 p255_0) e264 (W := 0) (by decide) (by decide) (by decide) (by decide) (Exa.ext O263 E_s_FIFO) (g := (mkF m 151 #[.val (.int p0), .val (.int p1), .val (.int p2), .val (.int p3), .val (.ref s_FIFO), .val (.int (0 : Int32)), .val (.ref b152), .val (.ref b159), .val (.ref b167), .val (.ref b176), .val (.int (1 : Int32))] [(.ref b176), (.ref s_FIFO)])) rfl (by rw [hml]; rfl) (argsL := [(.ref b176)]) (rest := []) (lenOf pd__Lcom_example_mailroom_mailroom_core_Envelope__Z rfl) rfl rfl (by show 2 * 0 + _ ≤ _; exact Nat.le_of_eq rfl) (hb hby at_151)
      obtain ⟨rfl, e267, rfl⟩ := q267
      have N267 := Fr.app N255 (Fr.nil _)
      refine GoS.of (T' := T267) (f' := (mkF m 154 #[.val (.int p0), .val (.int p1), .val (.int p2), .val (.int p3), .val (.ref s_FIFO), .val (.int (0 : Int32)), .val (.ref b152), .val (.ref b159), .val (.ref b167), .val (.ref b176), .val (.int (1 : Int32))] [(.int (1 : Int32))])) (fun _ k => st267 _ k) ?_
      refine GoS.of (T' := T267) (f' := (mkF m 156 #[.val (.int p0), .val (.int p1), .val (.int p2), .val (.int p3), .val (.ref s_FIFO), .val (.int (0 : Int32)), .val (.ref b152), .val (.ref b159), .val (.ref b167), .val (.ref b176), .val (.int (1 : Int32))] [(.int (1 : Int32)), (.int (1 : Int32))])) (fun _ k => XS.iload X267.here hx rfl (hb hby at_154) rfl k) ?_
      refine GoS.of (T' := T267) (f' := (mkF m 159 #[.val (.int p0), .val (.int p1), .val (.int p2), .val (.int p3), .val (.ref s_FIFO), .val (.int (0 : Int32)), .val (.ref b152), .val (.ref b159), .val (.ref b167), .val (.ref b176), .val (.int (1 : Int32))] [])) (fun _ k => XS.icmpNo X267.here hx rfl (hb hby at_156) rfl (teq (by decide : (1 : Int32) = (1 : Int32))).2 k) ?_
      refine GoS.of (T' := T267) (f' := (mkF m 160 #[.val (.int p0), .val (.int p1), .val (.int p2), .val (.int p3), .val (.ref s_FIFO), .val (.int (0 : Int32)), .val (.ref b152), .val (.ref b159), .val (.ref b167), .val (.ref b176), .val (.int (1 : Int32))] [(.int (1 : Int32))])) (fun _ k => XS.iconst X267.here hx rfl (hb hby at_159) k) ?_
      refine GoS.of (T' := T267) (f' := (mkF m 164 #[.val (.int p0), .val (.int p1), .val (.int p2), .val (.int p3), .val (.ref s_FIFO), .val (.int (0 : Int32)), .val (.ref b152), .val (.ref b159), .val (.ref b167), .val (.ref b176), .val (.int (1 : Int32))] [(.int (1 : Int32))])) (fun _ k => XS.goto X267.here hx rfl (pc0 := 160) (pc' := 164) rfl (hb hby at_160) (by decide) (by decide) k) ?_
      exact GoS.retB X267 hx hlk hS hk hZ hEL C255 e267 hret (by simp) (hb hby at_164) (by decide) (by decide) (z' := (1 : Int32)) rfl (by rw [e267]; exact ⟨rfl, N267, K263⟩)
    · skip
      refine GoS.of (T' := T150) (f' := (mkF m 23 #[.val (.int p0), .val (.int p1), .val (.int p2), .val (.int p3), .val (.ref s_FIFO), .unset, .unset, .unset, .unset, .unset, .unset] [])) (fun _ k => XS.ifNo X150.here hx rfl (hb hby at_20) rfl ((if0 _ _).trans (feq hc151).1) k) ?_
      refine GoS.of (T' := T150) (f' := (mkF m 24 #[.val (.int p0), .val (.int p1), .val (.int p2), .val (.int p3), .val (.ref s_FIFO), .unset, .unset, .unset, .unset, .unset, .unset] [(.int (1 : Int32))])) (fun _ k => XS.iconst X150.here hx rfl (hb hby at_23) k) ?_
      refine GoS.of (T' := T150) (f' := (mkF m 28 #[.val (.int p0), .val (.int p1), .val (.int p2), .val (.int p3), .val (.ref s_FIFO), .unset, .unset, .unset, .unset, .unset, .unset] [(.int (1 : Int32))])) (fun _ k => XS.goto X150.here hx rfl (pc0 := 24) (pc' := 28) rfl (hb hby at_24) (by decide) (by decide) k) ?_
      refine GoS.of (T' := T150) (f' := (mkF m 30 #[.val (.int p0), .val (.int p1), .val (.int p2), .val (.int p3), .val (.ref s_FIFO), .val (.int (1 : Int32)), .unset, .unset, .unset, .unset, .unset] [])) (fun _ k => XS.istore X150.here hx rfl (hb hby at_28) rfl (l' := #[.val (.int p0), .val (.int p1), .val (.int p2), .val (.int p3), .val (.ref s_FIFO), .val (.int (1 : Int32)), .unset, .unset, .unset, .unset, .unset]) rfl k) ?_
      refine GoS.of (T' := T150) (f' := (mkF m 31 #[.val (.int p0), .val (.int p1), .val (.int p2), .val (.int p3), .val (.ref s_FIFO), .val (.int (1 : Int32)), .unset, .unset, .unset, .unset, .unset] [(.int (1 : Int32))])) (fun _ k => XS.iconst X150.here hx rfl (hb hby at_30) k) ?_
      obtain ⟨T270, h270, k270, b270, q270, X270, e270, E270, V270, A270, st270⟩ := newAr X150 hx hZ (hw _ (List.mem_of_getElem? (i := 3) rfl)) e150 (g := (mkF m 31 #[.val (.int p0), .val (.int p1), .val (.int p2), .val (.int p3), .val (.ref s_FIFO), .val (.int (1 : Int32)), .unset, .unset, .unset, .unset, .unset] [(.int (1 : Int32))])) rfl (hb hby at_31) rfl (by decide) (cap := 1) (by decide) (by decide) (by decide) (by decide) (ad := "[C") (by decide)
      have O272 := Old0.ext O0 E270
      have K272 := Keep.ext K0 E270
      have C271 := CHr.trans C0 (CHr.ext E270 C0.1)
      have hk := Nat.le_trans hk E270.1
      have g_b270 : Z.heap.size ≤ b270 := q270 ▸ O0.1
      have z_b270 : h0.size ≤ b270 := q270 ▸ K0.1
      have f273 : Arv Z h270 b270 k270 .char (1 : Int32) [(.int (0 : Int32))] (.int (0 : Int32)) := Arv.pad V270 (pad_rep [] (.int (0 : Int32)) 1)
      refine GoS.of (T' := T270) (f' := (mkF m 33 #[.val (.int p0), .val (.int p1), .val (.int p2), .val (.int p3), .val (.ref s_FIFO), .val (.int (1 : Int32)), .unset, .unset, .unset, .unset, .unset] [(.ref b270)])) (fun _ k => st270 _ k) ?_
      refine GoS.of (T' := T270) (f' := (mkF m 34 #[.val (.int p0), .val (.int p1), .val (.int p2), .val (.int p3), .val (.ref s_FIFO), .val (.int (1 : Int32)), .unset, .unset, .unset, .unset, .unset] [(.ref b270), (.ref b270)])) (fun _ k => XS.dup X270.here hx rfl (hb hby at_33) rfl rfl k) ?_
      refine GoS.of (T' := T270) (f' := (mkF m 35 #[.val (.int p0), .val (.int p1), .val (.int p2), .val (.int p3), .val (.ref s_FIFO), .val (.int (1 : Int32)), .unset, .unset, .unset, .unset, .unset] [(.int (0 : Int32)), (.ref b270), (.ref b270)])) (fun _ k => XS.iconst X270.here hx rfl (hb hby at_34) k) ?_
      refine GoS.of (T' := T270) (f' := (mkF m 36 #[.val (.int p0), .val (.int p1), .val (.int p2), .val (.int p3), .val (.ref s_FIFO), .val (.int (1 : Int32)), .unset, .unset, .unset, .unset, .unset] [(.int p3), (.int (0 : Int32)), (.ref b270), (.ref b270)])) (fun _ k => XS.iloadN X270.here hx rfl (hb hby at_35) rfl k) ?_
      refine GoS.of (T' := T270) (f' := (mkF m 39 #[.val (.int p0), .val (.int p1), .val (.int p2), .val (.int p3), .val (.ref s_FIFO), .val (.int (1 : Int32)), .unset, .unset, .unset, .unset, .unset] [(.int (255 : Int32)), (.int p3), (.int (0 : Int32)), (.ref b270), (.ref b270)])) (fun _ k => XS.sipush X270.here hx rfl (hb hby at_36) k) ?_
      refine GoS.of (T' := T270) (f' := (mkF m 40 #[.val (.int p0), .val (.int p1), .val (.int p2), .val (.int p3), .val (.ref s_FIFO), .val (.int (1 : Int32)), .unset, .unset, .unset, .unset, .unset] [(.int (p3 &&& (255 : Int32))), (.int (0 : Int32)), (.ref b270), (.ref b270)])) (fun _ k => XS.iand X270.here hx rfl (hb hby at_39) rfl k) ?_
      refine GoS.of (T' := T270) (f' := (mkF m 41 #[.val (.int p0), .val (.int p1), .val (.int p2), .val (.int p3), .val (.ref s_FIFO), .val (.int (1 : Int32)), .unset, .unset, .unset, .unset, .unset] [(.int ((p3 &&& (255 : Int32)).toUInt32.toUInt16.toUInt32.toInt32)), (.int (0 : Int32)), (.ref b270), (.ref b270)])) (fun _ k => XS.i2c X270.here hx rfl (hb hby at_40) rfl k) ?_
      obtain ⟨cl274, Ar274, qk274, S274, Ng274, H274, G274⟩ := id f273
      obtain ⟨T274, h274, X274, e274, W274, st274⟩ := stC X270 hx hZ e270 Ar274 (j := (0 : Int32)) (inb_of S274 ⟨by decide, by decide⟩) (g := (mkF m 41 #[.val (.int p0), .val (.int p1), .val (.int p2), .val (.int p3), .val (.ref s_FIFO), .val (.int (1 : Int32)), .unset, .unset, .unset, .unset, .unset] [(.int ((p3 &&& (255 : Int32)).toUInt32.toUInt16.toUInt32.toInt32)), (.int (0 : Int32)), (.ref b270), (.ref b270)])) rfl rfl (hb hby at_41)
      have W274 : Wr h270 h274 b270 ((0 : Int32)).toNatClampNeg (.int (p3 &&& (255 : Int32))) := Eq.mp (congrArg (fun z => Wr h270 h274 b270 ((0 : Int32)).toNatClampNeg (Value.int z)) (own_c255 p3)) W274
      have O276 := Old0.wr O272 W274 g_b270
      have K276 := Keep.wr K272 W274 (Or.inr z_b270)
      have C275 := CHr.trans C271 (CHr.wr W274 (Safe.exa hZ.alike A270 (by decide) (by decide)) C271.1)
      have hk := Nat.le_trans hk (Keep.of_wr W274).1
      have f274 : Arv Z h274 b270 k270 .char (1 : Int32) [(.int (p3 &&& (255 : Int32)))] (.int (0 : Int32)) := Arv.set Ar274 qk274 S274 Ng274 H274 G274 (v := (.int (p3 &&& (255 : Int32)))) (own_f255 p3) W274 0 rfl (Nat.le_of_ble_eq_true rfl)
      have N274 := Fr.snoc X274 N0 g_b270
      refine GoS.of (T' := T274) (f' := (mkF m 42 #[.val (.int p0), .val (.int p1), .val (.int p2), .val (.int p3), .val (.ref s_FIFO), .val (.int (1 : Int32)), .unset, .unset, .unset, .unset, .unset] [(.ref b270)])) (fun _ k => st274 _ k) ?_
      refine GoS.of (T' := T274) (f' := (mkF m 44 #[.val (.int p0), .val (.int p1), .val (.int p2), .val (.int p3), .val (.ref s_FIFO), .val (.int (1 : Int32)), .val (.ref b270), .unset, .unset, .unset, .unset] [])) (fun _ k => XS.astore X274.here hx rfl (hb hby at_42) rfl rfl (l' := #[.val (.int p0), .val (.int p1), .val (.int p2), .val (.int p3), .val (.ref s_FIFO), .val (.int (1 : Int32)), .val (.ref b270), .unset, .unset, .unset, .unset]) rfl k) ?_
      refine GoS.of (T' := T274) (f' := (mkF m 45 #[.val (.int p0), .val (.int p1), .val (.int p2), .val (.int p3), .val (.ref s_FIFO), .val (.int (1 : Int32)), .val (.ref b270), .unset, .unset, .unset, .unset] [(.int (1 : Int32))])) (fun _ k => XS.iconst X274.here hx rfl (hb hby at_44) k) ?_
      have f278 : Exa Z h274 b270 "[C" := (Exa.wr W274 A270)
      obtain ⟨T277, h277, k277, b277, q277, X277, e277, E277, V277, A277, st277⟩ := newAr X274 hx hZ (hw _ (List.mem_of_getElem? (i := 3) rfl)) e274 (g := (mkF m 45 #[.val (.int p0), .val (.int p1), .val (.int p2), .val (.int p3), .val (.ref s_FIFO), .val (.int (1 : Int32)), .val (.ref b270), .unset, .unset, .unset, .unset] [(.int (1 : Int32))])) rfl (hb hby at_45) rfl (by decide) (cap := 1) (by decide) (by decide) (by decide) (by decide) (ad := "[C") (by decide)
      have O280 := Old0.ext O276 E277
      have K280 := Keep.ext K276 E277
      have C279 := CHr.trans C275 (CHr.ext E277 C275.1)
      have hk := Nat.le_trans hk E277.1
      have g_b277 : Z.heap.size ≤ b277 := q277 ▸ O276.1
      have z_b277 : h0.size ≤ b277 := q277 ▸ K276.1
      have ne_b270_b277 : b270 ≠ b277 := q277 ▸ Nat.ne_of_lt f278.lt
      have f281 : Arv Z h277 b277 k277 .char (1 : Int32) [(.int (0 : Int32))] (.int (0 : Int32)) := Arv.pad V277 (pad_rep [] (.int (0 : Int32)) 1)
      refine GoS.of (T' := T277) (f' := (mkF m 47 #[.val (.int p0), .val (.int p1), .val (.int p2), .val (.int p3), .val (.ref s_FIFO), .val (.int (1 : Int32)), .val (.ref b270), .unset, .unset, .unset, .unset] [(.ref b277)])) (fun _ k => st277 _ k) ?_
      refine GoS.of (T' := T277) (f' := (mkF m 48 #[.val (.int p0), .val (.int p1), .val (.int p2), .val (.int p3), .val (.ref s_FIFO), .val (.int (1 : Int32)), .val (.ref b270), .unset, .unset, .unset, .unset] [(.ref b277), (.ref b277)])) (fun _ k => XS.dup X277.here hx rfl (hb hby at_47) rfl rfl k) ?_
      refine GoS.of (T' := T277) (f' := (mkF m 49 #[.val (.int p0), .val (.int p1), .val (.int p2), .val (.int p3), .val (.ref s_FIFO), .val (.int (1 : Int32)), .val (.ref b270), .unset, .unset, .unset, .unset] [(.int (0 : Int32)), (.ref b277), (.ref b277)])) (fun _ k => XS.iconst X277.here hx rfl (hb hby at_48) k) ?_
      refine GoS.of (T' := T277) (f' := (mkF m 50 #[.val (.int p0), .val (.int p1), .val (.int p2), .val (.int p3), .val (.ref s_FIFO), .val (.int (1 : Int32)), .val (.ref b270), .unset, .unset, .unset, .unset] [(.int p3), (.int (0 : Int32)), (.ref b277), (.ref b277)])) (fun _ k => XS.iloadN X277.here hx rfl (hb hby at_49) rfl k) ?_
      refine GoS.of (T' := T277) (f' := (mkF m 52 #[.val (.int p0), .val (.int p1), .val (.int p2), .val (.int p3), .val (.ref s_FIFO), .val (.int (1 : Int32)), .val (.ref b270), .unset, .unset, .unset, .unset] [(.int (8 : Int32)), (.int p3), (.int (0 : Int32)), (.ref b277), (.ref b277)])) (fun _ k => XS.bipush X277.here hx rfl (hb hby at_50) k) ?_
      refine GoS.of (T' := T277) (f' := (mkF m 53 #[.val (.int p0), .val (.int p1), .val (.int p2), .val (.int p3), .val (.ref s_FIFO), .val (.int (1 : Int32)), .val (.ref b270), .unset, .unset, .unset, .unset] [(.int ((p3.toUInt32 >>> ((8 : Int32) &&& 31).toUInt32).toInt32)), (.int (0 : Int32)), (.ref b277), (.ref b277)])) (fun _ k => XS.iushr X277.here hx rfl (hb hby at_52) rfl k) ?_
      generalize hy8 : (((p3.toUInt32 >>> ((8 : Int32) &&& 31).toUInt32).toInt32) : Int32) = y8
      refine GoS.of (T' := T277) (f' := (mkF m 56 #[.val (.int p0), .val (.int p1), .val (.int p2), .val (.int p3), .val (.ref s_FIFO), .val (.int (1 : Int32)), .val (.ref b270), .unset, .unset, .unset, .unset] [(.int (255 : Int32)), (.int y8), (.int (0 : Int32)), (.ref b277), (.ref b277)])) (fun _ k => XS.sipush X277.here hx rfl (hb hby at_53) k) ?_
      refine GoS.of (T' := T277) (f' := (mkF m 57 #[.val (.int p0), .val (.int p1), .val (.int p2), .val (.int p3), .val (.ref s_FIFO), .val (.int (1 : Int32)), .val (.ref b270), .unset, .unset, .unset, .unset] [(.int (y8 &&& (255 : Int32))), (.int (0 : Int32)), (.ref b277), (.ref b277)])) (fun _ k => XS.iand X277.here hx rfl (hb hby at_56) rfl k) ?_
      refine GoS.of (T' := T277) (f' := (mkF m 58 #[.val (.int p0), .val (.int p1), .val (.int p2), .val (.int p3), .val (.ref s_FIFO), .val (.int (1 : Int32)), .val (.ref b270), .unset, .unset, .unset, .unset] [(.int ((y8 &&& (255 : Int32)).toUInt32.toUInt16.toUInt32.toInt32)), (.int (0 : Int32)), (.ref b277), (.ref b277)])) (fun _ k => XS.i2c X277.here hx rfl (hb hby at_57) rfl k) ?_
      obtain ⟨cl282, Ar282, qk282, S282, Ng282, H282, G282⟩ := id f281
      obtain ⟨T282, h282, X282, e282, W282, st282⟩ := stC X277 hx hZ e277 Ar282 (j := (0 : Int32)) (inb_of S282 ⟨by decide, by decide⟩) (g := (mkF m 58 #[.val (.int p0), .val (.int p1), .val (.int p2), .val (.int p3), .val (.ref s_FIFO), .val (.int (1 : Int32)), .val (.ref b270), .unset, .unset, .unset, .unset] [(.int ((y8 &&& (255 : Int32)).toUInt32.toUInt16.toUInt32.toInt32)), (.int (0 : Int32)), (.ref b277), (.ref b277)])) rfl rfl (hb hby at_58)
      have W282 : Wr h277 h282 b277 ((0 : Int32)).toNatClampNeg (.int (y8 &&& (255 : Int32))) := Eq.mp (congrArg (fun z => Wr h277 h282 b277 ((0 : Int32)).toNatClampNeg (Value.int z)) (own_c255 y8)) W282
      have O284 := Old0.wr O280 W282 g_b277
      have K284 := Keep.wr K280 W282 (Or.inr z_b277)
      have C283 := CHr.trans C279 (CHr.wr W282 (Safe.exa hZ.alike A277 (by decide) (by decide)) C279.1)
      have hk := Nat.le_trans hk (Keep.of_wr W282).1
      have f282 : Arv Z h282 b277 k277 .char (1 : Int32) [(.int (y8 &&& (255 : Int32)))] (.int (0 : Int32)) := Arv.set Ar282 qk282 S282 Ng282 H282 G282 (v := (.int (y8 &&& (255 : Int32)))) (own_f255 y8) W282 0 rfl (Nat.le_of_ble_eq_true rfl)
      have N282 := Fr.snoc X282 N274 g_b277
      refine GoS.of (T' := T282) (f' := (mkF m 59 #[.val (.int p0), .val (.int p1), .val (.int p2), .val (.int p3), .val (.ref s_FIFO), .val (.int (1 : Int32)), .val (.ref b270), .unset, .unset, .unset, .unset] [(.ref b277)])) (fun _ k => st282 _ k) ?_
      refine GoS.of (T' := T282) (f' := (mkF m 61 #[.val (.int p0), .val (.int p1), .val (.int p2), .val (.int p3), .val (.ref s_FIFO), .val (.int (1 : Int32)), .val (.ref b270), .val (.ref b277), .unset, .unset, .unset] [])) (fun _ k => XS.astore X282.here hx rfl (hb hby at_59) rfl rfl (l' := #[.val (.int p0), .val (.int p1), .val (.int p2), .val (.int p3), .val (.ref s_FIFO), .val (.int (1 : Int32)), .val (.ref b270), .val (.ref b277), .unset, .unset, .unset]) rfl k) ?_
      refine GoS.of (T' := T282) (f' := (mkF m 62 #[.val (.int p0), .val (.int p1), .val (.int p2), .val (.int p3), .val (.ref s_FIFO), .val (.int (1 : Int32)), .val (.ref b270), .val (.ref b277), .unset, .unset, .unset] [(.int (1 : Int32))])) (fun _ k => XS.iconst X282.here hx rfl (hb hby at_61) k) ?_
      have f286 : Exa Z h282 b270 "[C" := (Exa.wr W282 (Exa.ext E277 f278))
      have f287 : Exa Z h282 b277 "[C" := (Exa.wr W282 A277)
      obtain ⟨T285, h285, k285, b285, q285, X285, e285, E285, V285, A285, st285⟩ := newAr X282 hx hZ (hw _ (List.mem_of_getElem? (i := 3) rfl)) e282 (g := (mkF m 62 #[.val (.int p0), .val (.int p1), .val (.int p2), .val (.int p3), .val (.ref s_FIFO), .val (.int (1 : Int32)), .val (.ref b270), .val (.ref b277), .unset, .unset, .unset] [(.int (1 : Int32))])) rfl (hb hby at_62) rfl (by decide) (cap := 1) (by decide) (by decide) (by decide) (by decide) (ad := "[C") (by decide)
      have O289 := Old0.ext O284 E285
      have K289 := Keep.ext K284 E285
      have C288 := CHr.trans C283 (CHr.ext E285 C283.1)
      have hk := Nat.le_trans hk E285.1
      have g_b285 : Z.heap.size ≤ b285 := q285 ▸ O284.1
      have z_b285 : h0.size ≤ b285 := q285 ▸ K284.1
      have ne_b270_b285 : b270 ≠ b285 := q285 ▸ Nat.ne_of_lt f286.lt
      have ne_b277_b285 : b277 ≠ b285 := q285 ▸ Nat.ne_of_lt f287.lt
      have f290 : Arv Z h285 b285 k285 .char (1 : Int32) [(.int (0 : Int32))] (.int (0 : Int32)) := Arv.pad V285 (pad_rep [] (.int (0 : Int32)) 1)
      refine GoS.of (T' := T285) (f' := (mkF m 64 #[.val (.int p0), .val (.int p1), .val (.int p2), .val (.int p3), .val (.ref s_FIFO), .val (.int (1 : Int32)), .val (.ref b270), .val (.ref b277), .unset, .unset, .unset] [(.ref b285)])) (fun _ k => st285 _ k) ?_
      refine GoS.of (T' := T285) (f' := (mkF m 65 #[.val (.int p0), .val (.int p1), .val (.int p2), .val (.int p3), .val (.ref s_FIFO), .val (.int (1 : Int32)), .val (.ref b270), .val (.ref b277), .unset, .unset, .unset] [(.ref b285), (.ref b285)])) (fun _ k => XS.dup X285.here hx rfl (hb hby at_64) rfl rfl k) ?_
      refine GoS.of (T' := T285) (f' := (mkF m 66 #[.val (.int p0), .val (.int p1), .val (.int p2), .val (.int p3), .val (.ref s_FIFO), .val (.int (1 : Int32)), .val (.ref b270), .val (.ref b277), .unset, .unset, .unset] [(.int (0 : Int32)), (.ref b285), (.ref b285)])) (fun _ k => XS.iconst X285.here hx rfl (hb hby at_65) k) ?_
      refine GoS.of (T' := T285) (f' := (mkF m 67 #[.val (.int p0), .val (.int p1), .val (.int p2), .val (.int p3), .val (.ref s_FIFO), .val (.int (1 : Int32)), .val (.ref b270), .val (.ref b277), .unset, .unset, .unset] [(.int p3), (.int (0 : Int32)), (.ref b285), (.ref b285)])) (fun _ k => XS.iloadN X285.here hx rfl (hb hby at_66) rfl k) ?_
      refine GoS.of (T' := T285) (f' := (mkF m 69 #[.val (.int p0), .val (.int p1), .val (.int p2), .val (.int p3), .val (.ref s_FIFO), .val (.int (1 : Int32)), .val (.ref b270), .val (.ref b277), .unset, .unset, .unset] [(.int (16 : Int32)), (.int p3), (.int (0 : Int32)), (.ref b285), (.ref b285)])) (fun _ k => XS.bipush X285.here hx rfl (hb hby at_67) k) ?_
      refine GoS.of (T' := T285) (f' := (mkF m 70 #[.val (.int p0), .val (.int p1), .val (.int p2), .val (.int p3), .val (.ref s_FIFO), .val (.int (1 : Int32)), .val (.ref b270), .val (.ref b277), .unset, .unset, .unset] [(.int ((p3.toUInt32 >>> ((16 : Int32) &&& 31).toUInt32).toInt32)), (.int (0 : Int32)), (.ref b285), (.ref b285)])) (fun _ k => XS.iushr X285.here hx rfl (hb hby at_69) rfl k) ?_
      generalize hy16 : (((p3.toUInt32 >>> ((16 : Int32) &&& 31).toUInt32).toInt32) : Int32) = y16
      refine GoS.of (T' := T285) (f' := (mkF m 73 #[.val (.int p0), .val (.int p1), .val (.int p2), .val (.int p3), .val (.ref s_FIFO), .val (.int (1 : Int32)), .val (.ref b270), .val (.ref b277), .unset, .unset, .unset] [(.int (255 : Int32)), (.int y16), (.int (0 : Int32)), (.ref b285), (.ref b285)])) (fun _ k => XS.sipush X285.here hx rfl (hb hby at_70) k) ?_
      refine GoS.of (T' := T285) (f' := (mkF m 74 #[.val (.int p0), .val (.int p1), .val (.int p2), .val (.int p3), .val (.ref s_FIFO), .val (.int (1 : Int32)), .val (.ref b270), .val (.ref b277), .unset, .unset, .unset] [(.int (y16 &&& (255 : Int32))), (.int (0 : Int32)), (.ref b285), (.ref b285)])) (fun _ k => XS.iand X285.here hx rfl (hb hby at_73) rfl k) ?_
      refine GoS.of (T' := T285) (f' := (mkF m 75 #[.val (.int p0), .val (.int p1), .val (.int p2), .val (.int p3), .val (.ref s_FIFO), .val (.int (1 : Int32)), .val (.ref b270), .val (.ref b277), .unset, .unset, .unset] [(.int ((y16 &&& (255 : Int32)).toUInt32.toUInt16.toUInt32.toInt32)), (.int (0 : Int32)), (.ref b285), (.ref b285)])) (fun _ k => XS.i2c X285.here hx rfl (hb hby at_74) rfl k) ?_
      obtain ⟨cl291, Ar291, qk291, S291, Ng291, H291, G291⟩ := id f290
      obtain ⟨T291, h291, X291, e291, W291, st291⟩ := stC X285 hx hZ e285 Ar291 (j := (0 : Int32)) (inb_of S291 ⟨by decide, by decide⟩) (g := (mkF m 75 #[.val (.int p0), .val (.int p1), .val (.int p2), .val (.int p3), .val (.ref s_FIFO), .val (.int (1 : Int32)), .val (.ref b270), .val (.ref b277), .unset, .unset, .unset] [(.int ((y16 &&& (255 : Int32)).toUInt32.toUInt16.toUInt32.toInt32)), (.int (0 : Int32)), (.ref b285), (.ref b285)])) rfl rfl (hb hby at_75)
      have W291 : Wr h285 h291 b285 ((0 : Int32)).toNatClampNeg (.int (y16 &&& (255 : Int32))) := Eq.mp (congrArg (fun z => Wr h285 h291 b285 ((0 : Int32)).toNatClampNeg (Value.int z)) (own_c255 y16)) W291
      have O293 := Old0.wr O289 W291 g_b285
      have K293 := Keep.wr K289 W291 (Or.inr z_b285)
      have C292 := CHr.trans C288 (CHr.wr W291 (Safe.exa hZ.alike A285 (by decide) (by decide)) C288.1)
      have hk := Nat.le_trans hk (Keep.of_wr W291).1
      have f291 : Arv Z h291 b285 k285 .char (1 : Int32) [(.int (y16 &&& (255 : Int32)))] (.int (0 : Int32)) := Arv.set Ar291 qk291 S291 Ng291 H291 G291 (v := (.int (y16 &&& (255 : Int32)))) (own_f255 y16) W291 0 rfl (Nat.le_of_ble_eq_true rfl)
      have N291 := Fr.snoc X291 N282 g_b285
      refine GoS.of (T' := T291) (f' := (mkF m 76 #[.val (.int p0), .val (.int p1), .val (.int p2), .val (.int p3), .val (.ref s_FIFO), .val (.int (1 : Int32)), .val (.ref b270), .val (.ref b277), .unset, .unset, .unset] [(.ref b285)])) (fun _ k => st291 _ k) ?_
      refine GoS.of (T' := T291) (f' := (mkF m 78 #[.val (.int p0), .val (.int p1), .val (.int p2), .val (.int p3), .val (.ref s_FIFO), .val (.int (1 : Int32)), .val (.ref b270), .val (.ref b277), .val (.ref b285), .unset, .unset] [])) (fun _ k => XS.astore X291.here hx rfl (hb hby at_76) rfl rfl (l' := #[.val (.int p0), .val (.int p1), .val (.int p2), .val (.int p3), .val (.ref s_FIFO), .val (.int (1 : Int32)), .val (.ref b270), .val (.ref b277), .val (.ref b285), .unset, .unset]) rfl k) ?_
      have f295 : Exa Z h291 b270 "[C" := (Exa.wr W291 (Exa.ext E285 f286))
      have f296 : Exa Z h291 b277 "[C" := (Exa.wr W291 (Exa.ext E285 f287))
      have f297 : Exa Z h291 b285 "[C" := (Exa.wr W291 A285)
      obtain ⟨T294, h294, b294, q294, X294, e294, E294, A294, D294, st294⟩ := newOb X291 hx hZ hown (hw _ (List.mem_of_getElem? (i := 4) rfl)) (hw _ (List.mem_of_getElem? (i := 5) rfl)) (hw _ (List.mem_of_getElem? (i := 6) rfl)) e291 (g := (mkF m 78 #[.val (.int p0), .val (.int p1), .val (.int p2), .val (.int p3), .val (.ref s_FIFO), .val (.int (1 : Int32)), .val (.ref b270), .val (.ref b277), .val (.ref b285), .unset, .unset] [])) rfl (hb hby at_78) (by decide) (by decide)
      have O299 := Old0.ext O293 E294
      have K299 := Keep.ext K293 E294
      have C298 := CHr.trans C292 (CHr.ext E294 C292.1)
      have hk := Nat.le_trans hk E294.1
      have g_b294 : Z.heap.size ≤ b294 := q294 ▸ O293.1
      have z_b294 : h0.size ≤ b294 := q294 ▸ K293.1
      have ne_b270_b294 : b270 ≠ b294 := q294 ▸ Nat.ne_of_lt f295.lt
      have ne_b277_b294 : b277 ≠ b294 := q294 ▸ Nat.ne_of_lt f296.lt
      have ne_b285_b294 : b285 ≠ b294 := q294 ▸ Nat.ne_of_lt f297.lt
      have f300 : Fld Z h294 b294 "com/example/mailroom/mailroom/core/Envelope" "sender" "Ljava/lang/String;" .null := D294 (Or.inr (hw _ (List.mem_of_getElem? (i := 63) rfl))) (ty := (.object "java/lang/String")) (by decide)
      have f301 : Fld Z h294 b294 "com/example/mailroom/mailroom/core/Envelope" "receiver" "Ljava/lang/String;" .null := D294 (Or.inr (hw _ (List.mem_of_getElem? (i := 65) rfl))) (ty := (.object "java/lang/String")) (by decide)
      have f302 : Fld Z h294 b294 "com/example/mailroom/mailroom/core/Envelope" "number" "I" (.int (0 : Int32)) := D294 (Or.inr (hw _ (List.mem_of_getElem? (i := 67) rfl))) (ty := .int) (by decide)
      have f303 : Fld Z h294 b294 "com/example/mailroom/mailroom/core/Envelope" "message" "Ljava/lang/Object;" .null := D294 (Or.inr (hw _ (List.mem_of_getElem? (i := 69) rfl))) (ty := (.object "java/lang/Object")) (by decide)
      have f304 : Fld Z h294 b294 "com/example/mailroom/mailroom/core/Envelope" "replyTo" "Ljava/lang/String;" .null := D294 (Or.inr (hw _ (List.mem_of_getElem? (i := 71) rfl))) (ty := (.object "java/lang/String")) (by decide)
      have f305 : Fld Z h294 b294 "com/example/mailroom/mailroom/core/Envelope" "scheduled" "Z" (.int (0 : Int32)) := D294 (Or.inr (hw _ (List.mem_of_getElem? (i := 73) rfl))) (ty := .boolean) (by decide)
      refine GoS.of (T' := T294) (f' := (mkF m 81 #[.val (.int p0), .val (.int p1), .val (.int p2), .val (.int p3), .val (.ref s_FIFO), .val (.int (1 : Int32)), .val (.ref b270), .val (.ref b277), .val (.ref b285), .unset, .unset] [(.ref b294)])) (fun _ k => st294 _ k) ?_
      refine GoS.of (T' := T294) (f' := (mkF m 82 #[.val (.int p0), .val (.int p1), .val (.int p2), .val (.int p3), .val (.ref s_FIFO), .val (.int (1 : Int32)), .val (.ref b270), .val (.ref b277), .val (.ref b285), .unset, .unset] [(.ref b294), (.ref b294)])) (fun _ k => XS.dup X294.here hx rfl (hb hby at_81) rfl rfl k) ?_
      have f307 : Exa Z h294 b270 "[C" := (Exa.ext E294 f295)
      have f308 : Exa Z h294 b277 "[C" := (Exa.ext E294 f296)
      have f309 : Exa Z h294 b285 "[C" := (Exa.ext E294 f297)
      obtain ⟨T306, h306, b306, q306, X306, e306, E306, A306, D306, st306⟩ := newOb X294 hx hZ hown (hw _ (List.mem_of_getElem? (i := 7) rfl)) (hw _ (List.mem_of_getElem? (i := 8) rfl)) (hw _ (List.mem_of_getElem? (i := 9) rfl)) e294 (g := (mkF m 82 #[.val (.int p0), .val (.int p1), .val (.int p2), .val (.int p3), .val (.ref s_FIFO), .val (.int (1 : Int32)), .val (.ref b270), .val (.ref b277), .val (.ref b285), .unset, .unset] [(.ref b294), (.ref b294)])) rfl (hb hby at_82) (by decide) (by decide)
      have O311 := Old0.ext O299 E306
      have K311 := Keep.ext K299 E306
      have C310 := CHr.trans C298 (CHr.ext E306 C298.1)
      have hk := Nat.le_trans hk E306.1
      have g_b306 : Z.heap.size ≤ b306 := q306 ▸ O299.1
      have z_b306 : h0.size ≤ b306 := q306 ▸ K299.1
      have ne_b270_b306 : b270 ≠ b306 := q306 ▸ Nat.ne_of_lt f307.lt
      have ne_b277_b306 : b277 ≠ b306 := q306 ▸ Nat.ne_of_lt f308.lt
      have ne_b285_b306 : b285 ≠ b306 := q306 ▸ Nat.ne_of_lt f309.lt
      have ne_b294_b306 : b294 ≠ b306 := q306 ▸ Nat.ne_of_lt A294.lt
      have f312 : Fld Z h306 b306 "java/lang/String" "coder" "B" (.int (0 : Int32)) := D306 (Or.inr (hw _ (List.mem_of_getElem? (i := 33) rfl))) (ty := .byte) (by decide)
      have f313 : Fld Z h306 b306 "java/lang/String" "value" "[B" .null := D306 (Or.inr (hw _ (List.mem_of_getElem? (i := 35) rfl))) (ty := (.array .byte)) (by decide)
      refine GoS.of (T' := T306) (f' := (mkF m 85 #[.val (.int p0), .val (.int p1), .val (.int p2), .val (.int p3), .val (.ref s_FIFO), .val (.int (1 : Int32)), .val (.ref b270), .val (.ref b277), .val (.ref b285), .unset, .unset] [(.ref b306), (.ref b294), (.ref b294)])) (fun _ k => st306 _ k) ?_
      refine GoS.of (T' := T306) (f' := (mkF m 86 #[.val (.int p0), .val (.int p1), .val (.int p2), .val (.int p3), .val (.ref s_FIFO), .val (.int (1 : Int32)), .val (.ref b270), .val (.ref b277), .val (.ref b285), .unset, .unset] [(.ref b306), (.ref b306), (.ref b294), (.ref b294)])) (fun _ k => XS.dup X306.here hx rfl (hb hby at_85) rfl rfl k) ?_
      refine GoS.of (T' := T306) (f' := (mkF m 88 #[.val (.int p0), .val (.int p1), .val (.int p2), .val (.int p3), .val (.ref s_FIFO), .val (.int (1 : Int32)), .val (.ref b270), .val (.ref b277), .val (.ref b285), .unset, .unset] [(.ref b270), (.ref b306), (.ref b306), (.ref b294), (.ref b294)])) (fun _ k => XS.aload X306.here hx rfl (hb hby at_86) rfl rfl k) ?_
      have f315 : Arv Z h306 b270 k270 .char (1 : Int32) [(.int (p3 &&& (255 : Int32)))] (.int (0 : Int32)) := (Arv.ext (Arv.ext (Arv.other (Arv.ext (Arv.other (Arv.ext f274 E277) W282 ne_b270_b277) E285) W291 ne_b270_b285) E294) E306)
      have f316 : Exa Z h306 b270 "[C" := (Exa.ext E306 f307)
      have f317 : Exa Z h306 b277 "[C" := (Exa.ext E306 f308)
      have f318 : Exa Z h306 b285 "[C" := (Exa.ext E306 f309)
      have f319 : Exa Z h306 b294 "com/example/mailroom/mailroom/core/Envelope" := (Exa.ext E306 A294)
      obtain ⟨T314, v314, L314, X314, q314, st314⟩ := callNew X306 hx hZ (y := (⟨"java/lang/String", "<init>", "([C)V"⟩ : MethodName)) rfl hown (hw _ (List.mem_of_getElem? (i := 10) rfl)) (hw _ (List.mem_of_getElem? (i := 11) rfl)) (hw _ (List.mem_of_getElem? (i := 9) rfl)) (hw _ (List.mem_of_getElem? (i := 12) rfl)) (by decide) (rm_str_1 hw G b306 b270 k270 ((p3 &&& (255 : Int32))) h306 O311 (own_le255 _) A306 f313 f312 g_b306 f315 (Ne.symm ne_b270_b306)) e306 (W := 3) (by decide) (by decide) (by decide) (by decide) (g := (mkF m 88 #[.val (.int p0), .val (.int p1), .val (.int p2), .val (.int p3), .val (.ref s_FIFO), .val (.int (1 : Int32)), .val (.ref b270), .val (.ref b277), .val (.ref b285), .unset, .unset] [(.ref b270), (.ref b306), (.ref b306), (.ref b294), (.ref b294)])) rfl (by rw [hml]; rfl) (a := b306) (argsL := [(.ref b270)]) (rest := [(.ref b306), (.ref b294), (.ref b294)]) (lenOf pd___C_V rfl) rfl rfl (by show 2 * 0 + _ ≤ _; exact Nat.le_of_eq rfl) (hb hby at_88)
      obtain ⟨da_314, kd_314, rfl, N314q, K314q, p314_0, p314_1, p314_2, p314_3, p314_4⟩ := q314
      have N314 := Fr.app N291 N314q
      have sf321 : Safe Z own_EL s.vm h306 b306 := (Safe.ext E306 C298.1 (Safe.new (Nat.le_of_eq q306.symm)))
      have O322 := Old0.keep O311 K314q (allS g_b306 all0)
      have K322 := Keep.trans K311 K314q (allS (Or.inr z_b306) all0)
      have C320 := CHr.trans C310 (CHr.keep K314q (sfS sf321 sf0) C310.1)
      have hk := Nat.le_trans hk K314q.1
      have z_da_314 : h0.size ≤ da_314 := Nat.le_trans K311.1 p314_0
      have g_da_314 : Z.heap.size ≤ da_314 := Nat.le_trans O311.1 p314_0
      have ne_b270_da_314 : b270 ≠ da_314 := Nat.ne_of_lt (Nat.lt_of_lt_of_le f316.lt p314_0)
      have ne_b277_da_314 : b277 ≠ da_314 := Nat.ne_of_lt (Nat.lt_of_lt_of_le f317.lt p314_0)
      have ne_b285_da_314 : b285 ≠ da_314 := Nat.ne_of_lt (Nat.lt_of_lt_of_le f318.lt p314_0)
      have ne_b294_da_314 : b294 ≠ da_314 := Nat.ne_of_lt (Nat.lt_of_lt_of_le f319.lt p314_0)
      have ne_b306_da_314 : b306 ≠ da_314 := Nat.ne_of_lt (Nat.lt_of_lt_of_le A306.lt p314_0)
      refine GoS.of (T' := T314) (f' := (mkF m 91 #[.val (.int p0), .val (.int p1), .val (.int p2), .val (.int p3), .val (.ref s_FIFO), .val (.int (1 : Int32)), .val (.ref b270), .val (.ref b277), .val (.ref b285), .unset, .unset] [(.ref b306), (.ref b294), (.ref b294)])) (fun _ k => st314 _ k) ?_
      have f324 : Exa Z T314.heap b270 "[C" := (Exa.keep f316 K314q)
      have f325 : Exa Z T314.heap b277 "[C" := (Exa.keep f317 K314q)
      have f326 : Exa Z T314.heap b285 "[C" := (Exa.keep f318 K314q)
      have f327 : Exa Z T314.heap b294 "com/example/mailroom/mailroom/core/Envelope" := (Exa.keep f319 K314q)
      have f328 : Exa Z T314.heap b306 "java/lang/String" := (Exa.keep A306 K314q)
      obtain ⟨T323, h323, b323, q323, X323, e323, E323, A323, D323, st323⟩ := newOb X314 hx hZ hown (hw _ (List.mem_of_getElem? (i := 7) rfl)) (hw _ (List.mem_of_getElem? (i := 8) rfl)) (hw _ (List.mem_of_getElem? (i := 9) rfl)) rfl (g := (mkF m 91 #[.val (.int p0), .val (.int p1), .val (.int p2), .val (.int p3), .val (.ref s_FIFO), .val (.int (1 : Int32)), .val (.ref b270), .val (.ref b277), .val (.ref b285), .unset, .unset] [(.ref b306), (.ref b294), (.ref b294)])) rfl (hb hby at_91) (by decide) (by decide)
      have O330 := Old0.ext O322 E323
      have K330 := Keep.ext K322 E323
      have C329 := CHr.trans C320 (CHr.ext E323 C320.1)
      have hk := Nat.le_trans hk E323.1
      have g_b323 : Z.heap.size ≤ b323 := q323 ▸ O322.1
      have z_b323 : h0.size ≤ b323 := q323 ▸ K322.1
      have ne_b270_b323 : b270 ≠ b323 := q323 ▸ Nat.ne_of_lt f324.lt
      have ne_b277_b323 : b277 ≠ b323 := q323 ▸ Nat.ne_of_lt f325.lt
      have ne_b285_b323 : b285 ≠ b323 := q323 ▸ Nat.ne_of_lt f326.lt
      have ne_b294_b323 : b294 ≠ b323 := q323 ▸ Nat.ne_of_lt f327.lt
      have ne_b306_b323 : b306 ≠ b323 := q323 ▸ Nat.ne_of_lt f328.lt
      have ne_da_314_b323 : da_314 ≠ b323 := q323 ▸ Nat.ne_of_lt p314_4.lt
      have f331 : Fld Z h323 b323 "java/lang/String" "coder" "B" (.int (0 : Int32)) := D323 (Or.inr (hw _ (List.mem_of_getElem? (i := 33) rfl))) (ty := .byte) (by decide)
      have f332 : Fld Z h323 b323 "java/lang/String" "value" "[B" .null := D323 (Or.inr (hw _ (List.mem_of_getElem? (i := 35) rfl))) (ty := (.array .byte)) (by decide)
      refine GoS.of (T' := T323) (f' := (mkF m 94 #[.val (.int p0), .val (.int p1), .val (.int p2), .val (.int p3), .val (.ref s_FIFO), .val (.int (1 : Int32)), .val (.ref b270), .val (.ref b277), .val (.ref b285), .unset, .unset] [(.ref b323), (.ref b306), (.ref b294), (.ref b294)])) (fun _ k => st323 _ k) ?_
      refine GoS.of (T' := T323) (f' := (mkF m 95 #[.val (.int p0), .val (.int p1), .val (.int p2), .val (.int p3), .val (.ref s_FIFO), .val (.int (1 : Int32)), .val (.ref b270), .val (.ref b277), .val (.ref b285), .unset, .unset] [(.ref b323), (.ref b323), (.ref b306), (.ref b294), (.ref b294)])) (fun _ k => XS.dup X323.here hx rfl (hb hby at_94) rfl rfl k) ?_
      refine GoS.of (T' := T323) (f' := (mkF m 97 #[.val (.int p0), .val (.int p1), .val (.int p2), .val (.int p3), .val (.ref s_FIFO), .val (.int (1 : Int32)), .val (.ref b270), .val (.ref b277), .val (.ref b285), .unset, .unset] [(.ref b277), (.ref b323), (.ref b323), (.ref b306), (.ref b294), (.ref b294)])) (fun _ k => XS.aload X323.here hx rfl (hb hby at_95) rfl rfl k) ?_
      have f334 : Arv Z h323 b277 k277 .char (1 : Int32) [(.int (y8 &&& (255 : Int32)))] (.int (0 : Int32)) := (Arv.ext (Arv.keep (Arv.ext (Arv.ext (Arv.other (Arv.ext f282 E285) W291 ne_b277_b285) E294) E306) K314q (ninS ne_b277_b306 nin0)) E323)
      have f335 : Exa Z h323 b270 "[C" := (Exa.ext E323 f324)
      have f336 : Exa Z h323 b277 "[C" := (Exa.ext E323 f325)
      have f337 : Exa Z h323 b285 "[C" := (Exa.ext E323 f326)
      have f338 : Exa Z h323 b294 "com/example/mailroom/mailroom/core/Envelope" := (Exa.ext E323 f327)
      have f339 : Exa Z h323 b306 "java/lang/String" := (Exa.ext E323 f328)
      have f340 : Exa Z h323 da_314 "[B" := (Exa.ext E323 p314_4)
      obtain ⟨T333, v333, L333, X333, q333, st333⟩ := callNew X323 hx hZ (y := (⟨"java/lang/String", "<init>", "([C)V"⟩ : MethodName)) rfl hown (hw _ (List.mem_of_getElem? (i := 10) rfl)) (hw _ (List.mem_of_getElem? (i := 11) rfl)) (hw _ (List.mem_of_getElem? (i := 9) rfl)) (hw _ (List.mem_of_getElem? (i := 12) rfl)) (by decide) (rm_str_1 hw G b323 b277 k277 ((y8 &&& (255 : Int32))) h323 O330 (own_le255 _) A323 f332 f331 g_b323 f334 (Ne.symm ne_b277_b323)) e323 (W := 4) (by decide) (by decide) (by decide) (by decide) (g := (mkF m 97 #[.val (.int p0), .val (.int p1), .val (.int p2), .val (.int p3), .val (.ref s_FIFO), .val (.int (1 : Int32)), .val (.ref b270), .val (.ref b277), .val (.ref b285), .unset, .unset] [(.ref b277), (.ref b323), (.ref b323), (.ref b306), (.ref b294), (.ref b294)])) rfl (by rw [hml]; rfl) (a := b323) (argsL := [(.ref b277)]) (rest := [(.ref b323), (.ref b306), (.ref b294), (.ref b294)]) (lenOf pd___C_V rfl) rfl rfl (by show 2 * 0 + _ ≤ _; exact Nat.le_of_eq rfl) (hb hby at_97)
      obtain ⟨da_333, kd_333, rfl, N333q, K333q, p333_0, p333_1, p333_2, p333_3, p333_4⟩ := q333
      have N333 := Fr.app N314 N333q
      have sf342 : Safe Z own_EL s.vm h323 b323 := (Safe.ext E323 C320.1 (Safe.new (Nat.le_of_eq q323.symm)))
      have O343 := Old0.keep O330 K333q (allS g_b323 all0)
      have K343 := Keep.trans K330 K333q (allS (Or.inr z_b323) all0)
      have C341 := CHr.trans C329 (CHr.keep K333q (sfS sf342 sf0) C329.1)
      have hk := Nat.le_trans hk K333q.1
      have z_da_333 : h0.size ≤ da_333 := Nat.le_trans K330.1 p333_0
      have g_da_333 : Z.heap.size ≤ da_333 := Nat.le_trans O330.1 p333_0
      have ne_b270_da_333 : b270 ≠ da_333 := Nat.ne_of_lt (Nat.lt_of_lt_of_le f335.lt p333_0)
      have ne_b277_da_333 : b277 ≠ da_333 := Nat.ne_of_lt (Nat.lt_of_lt_of_le f336.lt p333_0)
      have ne_b285_da_333 : b285 ≠ da_333 := Nat.ne_of_lt (Nat.lt_of_lt_of_le f337.lt p333_0)
      have ne_b294_da_333 : b294 ≠ da_333 := Nat.ne_of_lt (Nat.lt_of_lt_of_le f338.lt p333_0)
      have ne_b306_da_333 : b306 ≠ da_333 := Nat.ne_of_lt (Nat.lt_of_lt_of_le f339.lt p333_0)
      have ne_da_314_da_333 : da_314 ≠ da_333 := Nat.ne_of_lt (Nat.lt_of_lt_of_le f340.lt p333_0)
      have ne_b323_da_333 : b323 ≠ da_333 := Nat.ne_of_lt (Nat.lt_of_lt_of_le A323.lt p333_0)
      refine GoS.of (T' := T333) (f' := (mkF m 100 #[.val (.int p0), .val (.int p1), .val (.int p2), .val (.int p3), .val (.ref s_FIFO), .val (.int (1 : Int32)), .val (.ref b270), .val (.ref b277), .val (.ref b285), .unset, .unset] [(.ref b323), (.ref b306), (.ref b294), (.ref b294)])) (fun _ k => st333 _ k) ?_
      refine GoS.of (T' := T333) (f' := (mkF m 101 #[.val (.int p0), .val (.int p1), .val (.int p2), .val (.int p3), .val (.ref s_FIFO), .val (.int (1 : Int32)), .val (.ref b270), .val (.ref b277), .val (.ref b285), .unset, .unset] [(.int p2), (.ref b323), (.ref b306), (.ref b294), (.ref b294)])) (fun _ k => XS.iloadN X333.here hx rfl (hb hby at_100) rfl k) ?_
      refine GoS.of (T' := T333) (f' := (mkF m 102 #[.val (.int p0), .val (.int p1), .val (.int p2), .val (.int p3), .val (.ref s_FIFO), .val (.int (1 : Int32)), .val (.ref b270), .val (.ref b277), .val (.ref b285), .unset, .unset] [(.int p1), (.int p2), (.ref b323), (.ref b306), (.ref b294), (.ref b294)])) (fun _ k => XS.iloadN X333.here hx rfl (hb hby at_101) rfl k) ?_
      obtain ⟨T344, v344, L344, X344, q344, st344⟩ := callSt X333 hx hZ (y := (⟨"java/lang/Integer", "valueOf", "(I)Ljava/lang/Integer;"⟩ : MethodName)) hown (hw _ (List.mem_of_getElem? (i := 36) rfl)) (hw _ (List.mem_of_getElem? (i := 37) rfl)) (hw _ (List.mem_of_getElem? (i := 38) rfl)) (hw _ (List.mem_of_getElem? (i := 39) rfl)) (by decide) (rm_valueOf hw G p1  T333.heap O343 ) rfl (W := 5) (by decide) (by decide) (by decide) (by decide) (g := (mkF m 102 #[.val (.int p0), .val (.int p1), .val (.int p2), .val (.int p3), .val (.ref s_FIFO), .val (.int (1 : Int32)), .val (.ref b270), .val (.ref b277), .val (.ref b285), .unset, .unset] [(.int p1), (.int p2), (.ref b323), (.ref b306), (.ref b294), (.ref b294)])) rfl (by rw [hml]; rfl) (argsL := [(.int p1)]) (rest := [(.int p2), (.ref b323), (.ref b306), (.ref b294), (.ref b294)]) (lenOf pd__I_Ljava_lang_Integer_ rfl) rfl rfl (by show 2 * 0 + _ ≤ _; exact Nat.le_of_eq rfl) (hb hby at_102)
      obtain ⟨r_344, rfl, N344q, K344q⟩ := q344
      have N344 := Fr.app N333 N344q
      have O346 := Old0.keep O343 K344q all0
      have K346 := Keep.trans K343 K344q all0
      have C345 := CHr.trans C341 (CHr.keep K344q sf0 C341.1)
      have hk := Nat.le_trans hk K344q.1
      refine GoS.of (T' := T344) (f' := (mkF m 105 #[.val (.int p0), .val (.int p1), .val (.int p2), .val (.int p3), .val (.ref s_FIFO), .val (.int (1 : Int32)), .val (.ref b270), .val (.ref b277), .val (.ref b285), .unset, .unset] [(.ref r_344), (.int p2), (.ref b323), (.ref b306), (.ref b294), (.ref b294)])) (fun _ k => st344 _ k) ?_
      have f348 : Exa Z T344.heap b270 "[C" := (Exa.keep (Exa.keep f335 K333q) K344q)
      have f349 : Exa Z T344.heap b277 "[C" := (Exa.keep (Exa.keep f336 K333q) K344q)
      have f350 : Exa Z T344.heap b285 "[C" := (Exa.keep (Exa.keep f337 K333q) K344q)
      have f351 : Exa Z T344.heap b294 "com/example/mailroom/mailroom/core/Envelope" := (Exa.keep (Exa.keep f338 K333q) K344q)
      have f352 : Exa Z T344.heap b306 "java/lang/String" := (Exa.keep (Exa.keep f339 K333q) K344q)
      have f353 : Exa Z T344.heap da_314 "[B" := (Exa.keep (Exa.keep f340 K333q) K344q)
      have f354 : Exa Z T344.heap b323 "java/lang/String" := (Exa.keep (Exa.keep A323 K333q) K344q)
      have f355 : Exa Z T344.heap da_333 "[B" := (Exa.keep p333_4 K344q)
      obtain ⟨T347, h347, b347, q347, X347, e347, E347, A347, D347, st347⟩ := newOb X344 hx hZ hown (hw _ (List.mem_of_getElem? (i := 7) rfl)) (hw _ (List.mem_of_getElem? (i := 8) rfl)) (hw _ (List.mem_of_getElem? (i := 9) rfl)) rfl (g := (mkF m 105 #[.val (.int p0), .val (.int p1), .val (.int p2), .val (.int p3), .val (.ref s_FIFO), .val (.int (1 : Int32)), .val (.ref b270), .val (.ref b277), .val (.ref b285), .unset, .unset] [(.ref r_344), (.int p2), (.ref b323), (.ref b306), (.ref b294), (.ref b294)])) rfl (hb hby at_105) (by decide) (by decide)
      have O357 := Old0.ext O346 E347
      have K357 := Keep.ext K346 E347
      have C356 := CHr.trans C345 (CHr.ext E347 C345.1)
      have hk := Nat.le_trans hk E347.1
      have g_b347 : Z.heap.size ≤ b347 := q347 ▸ O346.1
      have z_b347 : h0.size ≤ b347 := q347 ▸ K346.1
      have ne_b270_b347 : b270 ≠ b347 := q347 ▸ Nat.ne_of_lt f348.lt
      have ne_b277_b347 : b277 ≠ b347 := q347 ▸ Nat.ne_of_lt f349.lt
      have ne_b285_b347 : b285 ≠ b347 := q347 ▸ Nat.ne_of_lt f350.lt
      have ne_b294_b347 : b294 ≠ b347 := q347 ▸ Nat.ne_of_lt f351.lt
      have ne_b306_b347 : b306 ≠ b347 := q347 ▸ Nat.ne_of_lt f352.lt
      have ne_da_314_b347 : da_314 ≠ b347 := q347 ▸ Nat.ne_of_lt f353.lt
      have ne_b323_b347 : b323 ≠ b347 := q347 ▸ Nat.ne_of_lt f354.lt
      have ne_da_333_b347 : da_333 ≠ b347 := q347 ▸ Nat.ne_of_lt f355.lt
      have f358 : Fld Z h347 b347 "java/lang/String" "coder" "B" (.int (0 : Int32)) := D347 (Or.inr (hw _ (List.mem_of_getElem? (i := 33) rfl))) (ty := .byte) (by decide)
      have f359 : Fld Z h347 b347 "java/lang/String" "value" "[B" .null := D347 (Or.inr (hw _ (List.mem_of_getElem? (i := 35) rfl))) (ty := (.array .byte)) (by decide)
      refine GoS.of (T' := T347) (f' := (mkF m 108 #[.val (.int p0), .val (.int p1), .val (.int p2), .val (.int p3), .val (.ref s_FIFO), .val (.int (1 : Int32)), .val (.ref b270), .val (.ref b277), .val (.ref b285), .unset, .unset] [(.ref b347), (.ref r_344), (.int p2), (.ref b323), (.ref b306), (.ref b294), (.ref b294)])) (fun _ k => st347 _ k) ?_
      refine GoS.of (T' := T347) (f' := (mkF m 109 #[.val (.int p0), .val (.int p1), .val (.int p2), .val (.int p3), .val (.ref s_FIFO), .val (.int (1 : Int32)), .val (.ref b270), .val (.ref b277), .val (.ref b285), .unset, .unset] [(.ref b347), (.ref b347), (.ref r_344), (.int p2), (.ref b323), (.ref b306), (.ref b294), (.ref b294)])) (fun _ k => XS.dup X347.here hx rfl (hb hby at_108) rfl rfl k) ?_
      refine GoS.of (T' := T347) (f' := (mkF m 111 #[.val (.int p0), .val (.int p1), .val (.int p2), .val (.int p3), .val (.ref s_FIFO), .val (.int (1 : Int32)), .val (.ref b270), .val (.ref b277), .val (.ref b285), .unset, .unset] [(.ref b285), (.ref b347), (.ref b347), (.ref r_344), (.int p2), (.ref b323), (.ref b306), (.ref b294), (.ref b294)])) (fun _ k => XS.aload X347.here hx rfl (hb hby at_109) rfl rfl k) ?_
      have f361 : Arv Z h347 b285 k285 .char (1 : Int32) [(.int (y16 &&& (255 : Int32)))] (.int (0 : Int32)) := (Arv.ext (Arv.keep (Arv.keep (Arv.ext (Arv.keep (Arv.ext (Arv.ext f291 E294) E306) K314q (ninS ne_b285_b306 nin0)) E323) K333q (ninS ne_b285_b323 nin0)) K344q nin0) E347)
      have f362 : Exa Z h347 b270 "[C" := (Exa.ext E347 f348)
      have f363 : Exa Z h347 b277 "[C" := (Exa.ext E347 f349)
      have f364 : Exa Z h347 b285 "[C" := (Exa.ext E347 f350)
      have f365 : Exa Z h347 b294 "com/example/mailroom/mailroom/core/Envelope" := (Exa.ext E347 f351)
      have f366 : Exa Z h347 b306 "java/lang/String" := (Exa.ext E347 f352)
      have f367 : Exa Z h347 da_314 "[B" := (Exa.ext E347 f353)
      have f368 : Exa Z h347 b323 "java/lang/String" := (Exa.ext E347 f354)
      have f369 : Exa Z h347 da_333 "[B" := (Exa.ext E347 f355)
      obtain ⟨T360, v360, L360, X360, q360, st360⟩ := callNew X347 hx hZ (y := (⟨"java/lang/String", "<init>", "([C)V"⟩ : MethodName)) rfl hown (hw _ (List.mem_of_getElem? (i := 10) rfl)) (hw _ (List.mem_of_getElem? (i := 11) rfl)) (hw _ (List.mem_of_getElem? (i := 9) rfl)) (hw _ (List.mem_of_getElem? (i := 12) rfl)) (by decide) (rm_str_1 hw G b347 b285 k285 ((y16 &&& (255 : Int32))) h347 O357 (own_le255 _) A347 f359 f358 g_b347 f361 (Ne.symm ne_b285_b347)) e347 (W := 7) (by decide) (by decide) (by decide) (by decide) (g := (mkF m 111 #[.val (.int p0), .val (.int p1), .val (.int p2), .val (.int p3), .val (.ref s_FIFO), .val (.int (1 : Int32)), .val (.ref b270), .val (.ref b277), .val (.ref b285), .unset, .unset] [(.ref b285), (.ref b347), (.ref b347), (.ref r_344), (.int p2), (.ref b323), (.ref b306), (.ref b294), (.ref b294)])) rfl (by rw [hml]; rfl) (a := b347) (argsL := [(.ref b285)]) (rest := [(.ref b347), (.ref r_344), (.int p2), (.ref b323), (.ref b306), (.ref b294), (.ref b294)]) (lenOf pd___C_V rfl) rfl rfl (by show 2 * 0 + _ ≤ _; exact Nat.le_of_eq rfl) (hb hby at_111)
      obtain ⟨da_360, kd_360, rfl, N360q, K360q, p360_0, p360_1, p360_2, p360_3, p360_4⟩ := q360
      have N360 := Fr.app N344 N360q
      have sf371 : Safe Z own_EL s.vm h347 b347 := (Safe.ext E347 C345.1 (Safe.new (Nat.le_of_eq q347.symm)))
      have O372 := Old0.keep O357 K360q (allS g_b347 all0)
      have K372 := Keep.trans K357 K360q (allS (Or.inr z_b347) all0)
      have C370 := CHr.trans C356 (CHr.keep K360q (sfS sf371 sf0) C356.1)
      have hk := Nat.le_trans hk K360q.1
      have z_da_360 : h0.size ≤ da_360 := Nat.le_trans K357.1 p360_0
      have g_da_360 : Z.heap.size ≤ da_360 := Nat.le_trans O357.1 p360_0
      have ne_b270_da_360 : b270 ≠ da_360 := Nat.ne_of_lt (Nat.lt_of_lt_of_le f362.lt p360_0)
      have ne_b277_da_360 : b277 ≠ da_360 := Nat.ne_of_lt (Nat.lt_of_lt_of_le f363.lt p360_0)
      have ne_b285_da_360 : b285 ≠ da_360 := Nat.ne_of_lt (Nat.lt_of_lt_of_le f364.lt p360_0)
      have ne_b294_da_360 : b294 ≠ da_360 := Nat.ne_of_lt (Nat.lt_of_lt_of_le f365.lt p360_0)
      have ne_b306_da_360 : b306 ≠ da_360 := Nat.ne_of_lt (Nat.lt_of_lt_of_le f366.lt p360_0)
      have ne_da_314_da_360 : da_314 ≠ da_360 := Nat.ne_of_lt (Nat.lt_of_lt_of_le f367.lt p360_0)
      have ne_b323_da_360 : b323 ≠ da_360 := Nat.ne_of_lt (Nat.lt_of_lt_of_le f368.lt p360_0)
      have ne_da_333_da_360 : da_333 ≠ da_360 := Nat.ne_of_lt (Nat.lt_of_lt_of_le f369.lt p360_0)
      have ne_b347_da_360 : b347 ≠ da_360 := Nat.ne_of_lt (Nat.lt_of_lt_of_le A347.lt p360_0)
      refine GoS.of (T' := T360) (f' := (mkF m 114 #[.val (.int p0), .val (.int p1), .val (.int p2), .val (.int p3), .val (.ref s_FIFO), .val (.int (1 : Int32)), .val (.ref b270), .val (.ref b277), .val (.ref b285), .unset, .unset] [(.ref b347), (.ref r_344), (.int p2), (.ref b323), (.ref b306), (.ref b294), (.ref b294)])) (fun _ k => st360 _ k) ?_
      refine GoS.of (T' := T360) (f' := (mkF m 116 #[.val (.int p0), .val (.int p1), .val (.int p2), .val (.int p3), .val (.ref s_FIFO), .val (.int (1 : Int32)), .val (.ref b270), .val (.ref b277), .val (.ref b285), .unset, .unset] [(.int (1 : Int32)), (.ref b347), (.ref r_344), (.int p2), (.ref b323), (.ref b306), (.ref b294), (.ref b294)])) (fun _ k => XS.iload X360.here hx rfl (hb hby at_114) rfl k) ?_
      have f374 : Exa Z T360.heap b294 "com/example/mailroom/mailroom/core/Envelope" := (Exa.keep f365 K360q)
      have f375 : Fld Z T360.heap b294 "com/example/mailroom/mailroom/core/Envelope" "sender" "Ljava/lang/String;" .null := (Fld.keep (Fld.ext E347 (Fld.keep (Fld.keep (Fld.ext E323 (Fld.keep (Fld.ext E306 f300) K314q (ninS ne_b294_b306 nin0))) K333q (ninS ne_b294_b323 nin0)) K344q nin0)) K360q (ninS ne_b294_b347 nin0))
      have f376 : Fld Z T360.heap b294 "com/example/mailroom/mailroom/core/Envelope" "receiver" "Ljava/lang/String;" .null := (Fld.keep (Fld.ext E347 (Fld.keep (Fld.keep (Fld.ext E323 (Fld.keep (Fld.ext E306 f301) K314q (ninS ne_b294_b306 nin0))) K333q (ninS ne_b294_b323 nin0)) K344q nin0)) K360q (ninS ne_b294_b347 nin0))
      have f377 : Fld Z T360.heap b294 "com/example/mailroom/mailroom/core/Envelope" "number" "I" (.int (0 : Int32)) := (Fld.keep (Fld.ext E347 (Fld.keep (Fld.keep (Fld.ext E323 (Fld.keep (Fld.ext E306 f302) K314q (ninS ne_b294_b306 nin0))) K333q (ninS ne_b294_b323 nin0)) K344q nin0)) K360q (ninS ne_b294_b347 nin0))
      have f378 : Fld Z T360.heap b294 "com/example/mailroom/mailroom/core/Envelope" "message" "Ljava/lang/Object;" .null := (Fld.keep (Fld.ext E347 (Fld.keep (Fld.keep (Fld.ext E323 (Fld.keep (Fld.ext E306 f303) K314q (ninS ne_b294_b306 nin0))) K333q (ninS ne_b294_b323 nin0)) K344q nin0)) K360q (ninS ne_b294_b347 nin0))
      have f379 : Fld Z T360.heap b294 "com/example/mailroom/mailroom/core/Envelope" "replyTo" "Ljava/lang/String;" .null := (Fld.keep (Fld.ext E347 (Fld.keep (Fld.keep (Fld.ext E323 (Fld.keep (Fld.ext E306 f304) K314q (ninS ne_b294_b306 nin0))) K333q (ninS ne_b294_b323 nin0)) K344q nin0)) K360q (ninS ne_b294_b347 nin0))
      have f380 : Fld Z T360.heap b294 "com/example/mailroom/mailroom/core/Envelope" "scheduled" "Z" (.int (0 : Int32)) := (Fld.keep (Fld.ext E347 (Fld.keep (Fld.keep (Fld.ext E323 (Fld.keep (Fld.ext E306 f305) K314q (ninS ne_b294_b306 nin0))) K333q (ninS ne_b294_b323 nin0)) K344q nin0)) K360q (ninS ne_b294_b347 nin0))
      obtain ⟨T373, v373, L373, X373, q373, hS, hg373, hZ, hown, Cq373, st373⟩ := callNewS X360 hx hZ (y := (⟨"com/example/mailroom/mailroom/core/Envelope", "<init>", "(Ljava/lang/String;Ljava/lang/String;ILjava/lang/Object;Ljava/lang/String;Z)V"⟩ : MethodName)) rfl hS hk hEL C370.1 hown (hw _ (List.mem_of_getElem? (i := 43) rfl)) (hw _ (List.mem_of_getElem? (i := 44) rfl)) (hw _ (List.mem_of_getElem? (i := 6) rfl)) (hw _ (List.mem_of_getElem? (i := 45) rfl)) (by decide) (rm_env1 hw G b294 b306 b323 p2 r_344 b347  T360.heap O372 f374 f375 f376 f377 f378 f379 f380 g_b294) rfl (W := 1) (by decide) (by decide) (by decide) (by decide) (g := (mkF m 116 #[.val (.int p0), .val (.int p1), .val (.int p2), .val (.int p3), .val (.ref s_FIFO), .val (.int (1 : Int32)), .val (.ref b270), .val (.ref b277), .val (.ref b285), .unset, .unset] [(.int (1 : Int32)), (.ref b347), (.ref r_344), (.int p2), (.ref b323), (.ref b306), (.ref b294), (.ref b294)])) rfl (by rw [hml]; rfl) (a := b294) (argsL := [(.ref b306), (.ref b323), (.int p2), (.ref r_344), (.ref b347), (.int (1 : Int32))]) (rest := [(.ref b294)]) (lenOf pd__Ljava_lang_String_Ljava_lang_String_ILjava_lang_Object_Ljava_lang_String_Z_V rfl) rfl rfl (by show 2 * 0 + _ ≤ _; exact Nat.le_of_eq rfl) (hb hby at_116)
      obtain ⟨rfl, N373q, K373q, p373_0⟩ := q373
      have N373 := Fr.app N360 N373q
      have O381 := Old0.keep O372 K373q (allS g_b294 all0)
      have K381 := Keep.trans K372 K373q (allS (Or.inr z_b294) all0)
      have C373 := CHr.trans C370 Cq373
      have hk := Nat.le_refl T373.heap.size
      refine GoS.of (T' := T373) (f' := (mkF m 119 #[.val (.int p0), .val (.int p1), .val (.int p2), .val (.int p3), .val (.ref s_FIFO), .val (.int (1 : Int32)), .val (.ref b270), .val (.ref b277), .val (.ref b285), .unset, .unset] [(.ref b294)])) (fun _ k => st373 _ k) ?_
      refine GoS.of (T' := T373) (f' := (mkF m 121 #[.val (.int p0), .val (.int p1), .val (.int p2), .val (.int p3), .val (.ref s_FIFO), .val (.int (1 : Int32)), .val (.ref b270), .val (.ref b277), .val (.ref b285), .val (.ref b294), .unset] [])) (fun _ k => XS.astore X373.here hx rfl (hb hby at_119) rfl rfl (l' := #[.val (.int p0), .val (.int p1), .val (.int p2), .val (.int p3), .val (.ref s_FIFO), .val (.int (1 : Int32)), .val (.ref b270), .val (.ref b277), .val (.ref b285), .val (.ref b294), .unset]) rfl k) ?_
      refine GoS.of (T' := T373) (f' := (mkF m 123 #[.val (.int p0), .val (.int p1), .val (.int p2), .val (.int p3), .val (.ref s_FIFO), .val (.int (1 : Int32)), .val (.ref b270), .val (.ref b277), .val (.ref b285), .val (.ref b294), .unset] [(.ref s_FIFO)])) (fun _ k => XS.aload X373.here hx rfl (hb hby at_121) rfl rfl k) ?_
      obtain ⟨T382, X382, e382, st382⟩ := getS2 X373 hx hZ hown (host := "") (Or.inl (hw _ (List.mem_of_getElem? (i := 0) rfl))) Via.refl rfl (Sta.ext O381 S_FIFO) (g := (mkF m 123 #[.val (.int p0), .val (.int p1), .val (.int p2), .val (.int p3), .val (.ref s_FIFO), .val (.int (1 : Int32)), .val (.ref b270), .val (.ref b277), .val (.ref b285), .val (.ref b294), .unset] [(.ref s_FIFO)])) rfl (hb hby at_123)
      refine GoS.of (T' := T382) (f' := (mkF m 126 #[.val (.int p0), .val (.int p1), .val (.int p2), .val (.int p3), .val (.ref s_FIFO), .val (.int (1 : Int32)), .val (.ref b270), .val (.ref b277), .val (.ref b285), .val (.ref b294), .unset] [(.ref s_FIFO), (.ref s_FIFO)])) (fun _ k => st382 _ k) ?_
      refine GoS.of (T' := T382) (f' := (mkF m 129 #[.val (.int p0), .val (.int p1), .val (.int p2), .val (.int p3), .val (.ref s_FIFO), .val (.int (1 : Int32)), .val (.ref b270), .val (.ref b277), .val (.ref b285), .val (.ref b294), .unset] [])) (fun _ k => Jvm.RoadKit.acmp (g := (mkF m 126 #[.val (.int p0), .val (.int p1), .val (.int p2), .val (.int p3), .val (.ref s_FIFO), .val (.int (1 : Int32)), .val (.ref b270), .val (.ref b277), .val (.ref b285), .val (.ref b294), .unset] [(.ref s_FIFO), (.ref s_FIFO)])) X382 hx rfl rfl rfl (pc0 := 126) (pc' := 129) (same := true) rfl (hb hby at_126) rfl (decide_eq_true rfl) (by decide) (by decide) k) ?_
      refine GoS.of (T' := T382) (f' := (mkF m 131 #[.val (.int p0), .val (.int p1), .val (.int p2), .val (.int p3), .val (.ref s_FIFO), .val (.int (1 : Int32)), .val (.ref b270), .val (.ref b277), .val (.ref b285), .val (.ref b294), .unset] [(.int (1 : Int32))])) (fun _ k => XS.iload X382.here hx rfl (hb hby at_129) rfl k) ?_
      refine GoS.of (T' := T382) (f' := (mkF m 138 #[.val (.int p0), .val (.int p1), .val (.int p2), .val (.int p3), .val (.ref s_FIFO), .val (.int (1 : Int32)), .val (.ref b270), .val (.ref b277), .val (.ref b285), .val (.ref b294), .unset] [])) (fun _ k => XS.ifYes X382.here hx rfl (pc0 := 131) (pc' := 138) rfl (hb hby at_131) rfl ((if0 _ _).trans (feq (by decide : ¬ ((1 : Int32) = (0 : Int32)))).2) (by decide) (by decide) k) ?_
      refine GoS.of (T' := T382) (f' := (mkF m 139 #[.val (.int p0), .val (.int p1), .val (.int p2), .val (.int p3), .val (.ref s_FIFO), .val (.int (1 : Int32)), .val (.ref b270), .val (.ref b277), .val (.ref b285), .val (.ref b294), .unset] [(.int (0 : Int32))])) (fun _ k => XS.iconst X382.here hx rfl (hb hby at_138) k) ?_
      refine GoS.of (T' := T382) (f' := (mkF m 141 #[.val (.int p0), .val (.int p1), .val (.int p2), .val (.int p3), .val (.ref s_FIFO), .val (.int (1 : Int32)), .val (.ref b270), .val (.ref b277), .val (.ref b285), .val (.ref b294), .val (.int (0 : Int32))] [])) (fun _ k => XS.istore X382.here hx rfl (hb hby at_139) rfl (l' := #[.val (.int p0), .val (.int p1), .val (.int p2), .val (.int p3), .val (.ref s_FIFO), .val (.int (1 : Int32)), .val (.ref b270), .val (.ref b277), .val (.ref b285), .val (.ref b294), .val (.int (0 : Int32))]) rfl k) ?_
      refine GoS.of (T' := T382) (f' := (mkF m 147 #[.val (.int p0), .val (.int p1), .val (.int p2), .val (.int p3), .val (.ref s_FIFO), .val (.int (1 : Int32)), .val (.ref b270), .val (.ref b277), .val (.ref b285), .val (.ref b294), .val (.int (0 : Int32))] [])) (fun _ k => XS.goto X382.here hx rfl (pc0 := 141) (pc' := 147) rfl (hb hby at_141) (by decide) (by decide) k) ?_
      refine GoS.of (T' := T382) (f' := (mkF m 149 #[.val (.int p0), .val (.int p1), .val (.int p2), .val (.int p3), .val (.ref s_FIFO), .val (.int (1 : Int32)), .val (.ref b270), .val (.ref b277), .val (.ref b285), .val (.ref b294), .val (.int (0 : Int32))] [(.ref s_FIFO)])) (fun _ k => XS.aload X382.here hx rfl (hb hby at_147) rfl rfl k) ?_
      refine GoS.of (T' := T382) (f' := (mkF m 151 #[.val (.int p0), .val (.int p1), .val (.int p2), .val (.int p3), .val (.ref s_FIFO), .val (.int (1 : Int32)), .val (.ref b270), .val (.ref b277), .val (.ref b285), .val (.ref b294), .val (.int (0 : Int32))] [(.ref b294), (.ref s_FIFO)])) (fun _ k => XS.aload X382.here hx rfl (hb hby at_149) rfl rfl k) ?_
      have f386 : Exa Z T373.heap b294 "com/example/mailroom/mailroom/core/Envelope" := (Exa.keep f374 K373q)
      obtain ⟨T385, v385, L385, X385, q385, st385⟩ := callVi X382 hx hZ (y := (⟨"com/example/mailroom/mailroom/core/Delivery", "holdsBack", "(Lcom/example/mailroom/mailroom/core/Envelope;)Z"⟩ : MethodName)) (z := (⟨"com/example/mailroom/mailroom/core/Delivery", "holdsBack", "(Lcom/example/mailroom/mailroom/core/Envelope;)Z"⟩ : MethodName)) hown (hw _ (List.mem_of_getElem? (i := 74) rfl)) (hw _ (List.mem_of_getElem? (i := 75) rfl)) (notFace_of_selects (args := #[]) (mvT hZ (hw _ (List.mem_of_getElem? (i := 77) rfl)))) (hw _ (List.mem_of_getElem? (i := 77) rfl)) (hw _ (List.mem_of_getElem? (i := 76) rfl)) (hw _ (List.mem_of_getElem? (i := 78) rfl)) (hw _ (List.mem_of_getElem? (i := 1) rfl)) (by decide) (rm_hold_FIFO1 hw G b294  T373.heap O381 f386 p373_0) e382 (W := 0) (by decide) (by decide) (by decide) (by decide) (Exa.ext O381 E_s_FIFO) (g := (mkF m 151 #[.val (.int p0), .val (.int p1), .val (.int p2), .val (.int p3), .val (.ref s_FIFO), .val (.int (1 : Int32)), .val (.ref b270), .val (.ref b277), .val (.ref b285), .val (.ref b294), .val (.int (0 : Int32))] [(.ref b294), (.ref s_FIFO)])) rfl (by rw [hml]; rfl) (argsL := [(.ref b294)]) (rest := []) (lenOf pd__Lcom_example_mailroom_mailroom_core_Envelope__Z rfl) rfl rfl (by show 2 * 0 + _ ≤ _; exact Nat.le_of_eq rfl) (hb hby at_151)
      obtain ⟨rfl, e385, rfl⟩ := q385
      have N385 := Fr.app N373 (Fr.nil _)
      refine GoS.of (T' := T385) (f' := (mkF m 154 #[.val (.int p0), .val (.int p1), .val (.int p2), .val (.int p3), .val (.ref s_FIFO), .val (.int (1 : Int32)), .val (.ref b270), .val (.ref b277), .val (.ref b285), .val (.ref b294), .val (.int (0 : Int32))] [(.int (0 : Int32))])) (fun _ k => st385 _ k) ?_
      refine GoS.of (T' := T385) (f' := (mkF m 156 #[.val (.int p0), .val (.int p1), .val (.int p2), .val (.int p3), .val (.ref s_FIFO), .val (.int (1 : Int32)), .val (.ref b270), .val (.ref b277), .val (.ref b285), .val (.ref b294), .val (.int (0 : Int32))] [(.int (0 : Int32)), (.int (0 : Int32))])) (fun _ k => XS.iload X385.here hx rfl (hb hby at_154) rfl k) ?_
      refine GoS.of (T' := T385) (f' := (mkF m 159 #[.val (.int p0), .val (.int p1), .val (.int p2), .val (.int p3), .val (.ref s_FIFO), .val (.int (1 : Int32)), .val (.ref b270), .val (.ref b277), .val (.ref b285), .val (.ref b294), .val (.int (0 : Int32))] [])) (fun _ k => XS.icmpNo X385.here hx rfl (hb hby at_156) rfl (teq (by decide : (0 : Int32) = (0 : Int32))).2 k) ?_
      refine GoS.of (T' := T385) (f' := (mkF m 160 #[.val (.int p0), .val (.int p1), .val (.int p2), .val (.int p3), .val (.ref s_FIFO), .val (.int (1 : Int32)), .val (.ref b270), .val (.ref b277), .val (.ref b285), .val (.ref b294), .val (.int (0 : Int32))] [(.int (1 : Int32))])) (fun _ k => XS.iconst X385.here hx rfl (hb hby at_159) k) ?_
      refine GoS.of (T' := T385) (f' := (mkF m 164 #[.val (.int p0), .val (.int p1), .val (.int p2), .val (.int p3), .val (.ref s_FIFO), .val (.int (1 : Int32)), .val (.ref b270), .val (.ref b277), .val (.ref b285), .val (.ref b294), .val (.int (0 : Int32))] [(.int (1 : Int32))])) (fun _ k => XS.goto X385.here hx rfl (pc0 := 160) (pc' := 164) rfl (hb hby at_160) (by decide) (by decide) k) ?_
      exact GoS.retB X385 hx hlk hS hk hZ hEL C373 e385 hret (by simp) (hb hby at_164) (by decide) (by decide) (z' := (1 : Int32)) rfl (by rw [e385]; exact ⟨rfl, N385, K381⟩)
  · skip
    refine GoS.of (T' := T0) (f' := (mkF m 12 #[.val (.int p0), .val (.int p1), .val (.int p2), .val (.int p3), .unset, .unset, .unset, .unset, .unset, .unset, .unset] [])) (fun _ k => XS.ifYes X0.here hx rfl (pc0 := 3) (pc' := 12) rfl (hb hby at_3) rfl ((if0 _ _).trans (feq hc149).2) (by decide) (by decide) k) ?_
    obtain ⟨T388, X388, e388, st388⟩ := getS2 X0 hx hZ hown (host := "") (Or.inl (hw _ (List.mem_of_getElem? (i := 86) rfl))) Via.refl e0 (Sta.ext O0 S_UNORDERED) (g := (mkF m 12 #[.val (.int p0), .val (.int p1), .val (.int p2), .val (.int p3), .unset, .unset, .unset, .unset, .unset, .unset, .unset] [])) rfl (hb hby at_12)
    refine GoS.of (T' := T388) (f' := (mkF m 15 #[.val (.int p0), .val (.int p1), .val (.int p2), .val (.int p3), .unset, .unset, .unset, .unset, .unset, .unset, .unset] [(.ref s_UNORDERED)])) (fun _ k => st388 _ k) ?_
    refine GoS.of (T' := T388) (f' := (mkF m 17 #[.val (.int p0), .val (.int p1), .val (.int p2), .val (.int p3), .val (.ref s_UNORDERED), .unset, .unset, .unset, .unset, .unset, .unset] [])) (fun _ k => XS.astore X388.here hx rfl (hb hby at_15) rfl rfl (l' := #[.val (.int p0), .val (.int p1), .val (.int p2), .val (.int p3), .val (.ref s_UNORDERED), .unset, .unset, .unset, .unset, .unset, .unset]) rfl k) ?_
    refine GoS.of (T' := T388) (f' := (mkF m 18 #[.val (.int p0), .val (.int p1), .val (.int p2), .val (.int p3), .val (.ref s_UNORDERED), .unset, .unset, .unset, .unset, .unset, .unset] [(.int p1)])) (fun _ k => XS.iloadN X388.here hx rfl (hb hby at_17) rfl k) ?_
    refine GoS.of (T' := T388) (f' := (mkF m 19 #[.val (.int p0), .val (.int p1), .val (.int p2), .val (.int p3), .val (.ref s_UNORDERED), .unset, .unset, .unset, .unset, .unset, .unset] [(.int (1 : Int32)), (.int p1)])) (fun _ k => XS.iconst X388.here hx rfl (hb hby at_18) k) ?_
    refine GoS.of (T' := T388) (f' := (mkF m 20 #[.val (.int p0), .val (.int p1), .val (.int p2), .val (.int p3), .val (.ref s_UNORDERED), .unset, .unset, .unset, .unset, .unset, .unset] [(.int (p1 &&& (1 : Int32)))])) (fun _ k => XS.iand X388.here hx rfl (hb hby at_19) rfl k) ?_
    by_cases hc389 : (p1 &&& (1 : Int32)) = (0 : Int32)
    · skip
      refine GoS.of (T' := T388) (f' := (mkF m 27 #[.val (.int p0), .val (.int p1), .val (.int p2), .val (.int p3), .val (.ref s_UNORDERED), .unset, .unset, .unset, .unset, .unset, .unset] [])) (fun _ k => XS.ifYes X388.here hx rfl (pc0 := 20) (pc' := 27) rfl (hb hby at_20) rfl ((if0 _ _).trans (teq hc389).1) (by decide) (by decide) k) ?_
      refine GoS.of (T' := T388) (f' := (mkF m 28 #[.val (.int p0), .val (.int p1), .val (.int p2), .val (.int p3), .val (.ref s_UNORDERED), .unset, .unset, .unset, .unset, .unset, .unset] [(.int (0 : Int32))])) (fun _ k => XS.iconst X388.here hx rfl (hb hby at_27) k) ?_
      refine GoS.of (T' := T388) (f' := (mkF m 30 #[.val (.int p0), .val (.int p1), .val (.int p2), .val (.int p3), .val (.ref s_UNORDERED), .val (.int (0 : Int32)), .unset, .unset, .unset, .unset, .unset] [])) (fun _ k => XS.istore X388.here hx rfl (hb hby at_28) rfl (l' := #[.val (.int p0), .val (.int p1), .val (.int p2), .val (.int p3), .val (.ref s_UNORDERED), .val (.int (0 : Int32)), .unset, .unset, .unset, .unset, .unset]) rfl k) ?_
      refine GoS.of (T' := T388) (f' := (mkF m 31 #[.val (.int p0), .val (.int p1), .val (.int p2), .val (.int p3), .val (.ref s_UNORDERED), .val (.int (0 : Int32)), .unset, .unset, .unset, .unset, .unset] [(.int (1 : Int32))])) (fun _ k => XS.iconst X388.here hx rfl (hb hby at_30) k) ?_
      obtain ⟨T390, h390, k390, b390, q390, X390, e390, E390, V390, A390, st390⟩ := newAr X388 hx hZ (hw _ (List.mem_of_getElem? (i := 3) rfl)) e388 (g := (mkF m 31 #[.val (.int p0), .val (.int p1), .val (.int p2), .val (.int p3), .val (.ref s_UNORDERED), .val (.int (0 : Int32)), .unset, .unset, .unset, .unset, .unset] [(.int (1 : Int32))])) rfl (hb hby at_31) rfl (by decide) (cap := 1) (by decide) (by decide) (by decide) (by decide) (ad := "[C") (by decide)
      have O392 := Old0.ext O0 E390
      have K392 := Keep.ext K0 E390
      have C391 := CHr.trans C0 (CHr.ext E390 C0.1)
      have hk := Nat.le_trans hk E390.1
      have g_b390 : Z.heap.size ≤ b390 := q390 ▸ O0.1
      have z_b390 : h0.size ≤ b390 := q390 ▸ K0.1
      have f393 : Arv Z h390 b390 k390 .char (1 : Int32) [(.int (0 : Int32))] (.int (0 : Int32)) := Arv.pad V390 (pad_rep [] (.int (0 : Int32)) 1)
      refine GoS.of (T' := T390) (f' := (mkF m 33 #[.val (.int p0), .val (.int p1), .val (.int p2), .val (.int p3), .val (.ref s_UNORDERED), .val (.int (0 : Int32)), .unset, .unset, .unset, .unset, .unset] [(.ref b390)])) (fun _ k => st390 _ k) ?_
      refine GoS.of (T' := T390) (f' := (mkF m 34 #[.val (.int p0), .val (.int p1), .val (.int p2), .val (.int p3), .val (.ref s_UNORDERED), .val (.int (0 : Int32)), .unset, .unset, .unset, .unset, .unset] [(.ref b390), (.ref b390)])) (fun _ k => XS.dup X390.here hx rfl (hb hby at_33) rfl rfl k) ?_
      refine GoS.of (T' := T390) (f' := (mkF m 35 #[.val (.int p0), .val (.int p1), .val (.int p2), .val (.int p3), .val (.ref s_UNORDERED), .val (.int (0 : Int32)), .unset, .unset, .unset, .unset, .unset] [(.int (0 : Int32)), (.ref b390), (.ref b390)])) (fun _ k => XS.iconst X390.here hx rfl (hb hby at_34) k) ?_
      refine GoS.of (T' := T390) (f' := (mkF m 36 #[.val (.int p0), .val (.int p1), .val (.int p2), .val (.int p3), .val (.ref s_UNORDERED), .val (.int (0 : Int32)), .unset, .unset, .unset, .unset, .unset] [(.int p3), (.int (0 : Int32)), (.ref b390), (.ref b390)])) (fun _ k => XS.iloadN X390.here hx rfl (hb hby at_35) rfl k) ?_
      refine GoS.of (T' := T390) (f' := (mkF m 39 #[.val (.int p0), .val (.int p1), .val (.int p2), .val (.int p3), .val (.ref s_UNORDERED), .val (.int (0 : Int32)), .unset, .unset, .unset, .unset, .unset] [(.int (255 : Int32)), (.int p3), (.int (0 : Int32)), (.ref b390), (.ref b390)])) (fun _ k => XS.sipush X390.here hx rfl (hb hby at_36) k) ?_
      refine GoS.of (T' := T390) (f' := (mkF m 40 #[.val (.int p0), .val (.int p1), .val (.int p2), .val (.int p3), .val (.ref s_UNORDERED), .val (.int (0 : Int32)), .unset, .unset, .unset, .unset, .unset] [(.int (p3 &&& (255 : Int32))), (.int (0 : Int32)), (.ref b390), (.ref b390)])) (fun _ k => XS.iand X390.here hx rfl (hb hby at_39) rfl k) ?_
      refine GoS.of (T' := T390) (f' := (mkF m 41 #[.val (.int p0), .val (.int p1), .val (.int p2), .val (.int p3), .val (.ref s_UNORDERED), .val (.int (0 : Int32)), .unset, .unset, .unset, .unset, .unset] [(.int ((p3 &&& (255 : Int32)).toUInt32.toUInt16.toUInt32.toInt32)), (.int (0 : Int32)), (.ref b390), (.ref b390)])) (fun _ k => XS.i2c X390.here hx rfl (hb hby at_40) rfl k) ?_
      obtain ⟨cl394, Ar394, qk394, S394, Ng394, H394, G394⟩ := id f393
      obtain ⟨T394, h394, X394, e394, W394, st394⟩ := stC X390 hx hZ e390 Ar394 (j := (0 : Int32)) (inb_of S394 ⟨by decide, by decide⟩) (g := (mkF m 41 #[.val (.int p0), .val (.int p1), .val (.int p2), .val (.int p3), .val (.ref s_UNORDERED), .val (.int (0 : Int32)), .unset, .unset, .unset, .unset, .unset] [(.int ((p3 &&& (255 : Int32)).toUInt32.toUInt16.toUInt32.toInt32)), (.int (0 : Int32)), (.ref b390), (.ref b390)])) rfl rfl (hb hby at_41)
      have W394 : Wr h390 h394 b390 ((0 : Int32)).toNatClampNeg (.int (p3 &&& (255 : Int32))) := Eq.mp (congrArg (fun z => Wr h390 h394 b390 ((0 : Int32)).toNatClampNeg (Value.int z)) (own_c255 p3)) W394
      have O396 := Old0.wr O392 W394 g_b390
      have K396 := Keep.wr K392 W394 (Or.inr z_b390)
      have C395 := CHr.trans C391 (CHr.wr W394 (Safe.exa hZ.alike A390 (by decide) (by decide)) C391.1)
      have hk := Nat.le_trans hk (Keep.of_wr W394).1
      have f394 : Arv Z h394 b390 k390 .char (1 : Int32) [(.int (p3 &&& (255 : Int32)))] (.int (0 : Int32)) := Arv.set Ar394 qk394 S394 Ng394 H394 G394 (v := (.int (p3 &&& (255 : Int32)))) (own_f255 p3) W394 0 rfl (Nat.le_of_ble_eq_true rfl)
      have N394 := Fr.snoc X394 N0 g_b390
      refine GoS.of (T' := T394) (f' := (mkF m 42 #[.val (.int p0), .val (.int p1), .val (.int p2), .val (.int p3), .val (.ref s_UNORDERED), .val (.int (0 : Int32)), .unset, .unset, .unset, .unset, .unset] [(.ref b390)])) (fun _ k => st394 _ k) ?_
      refine GoS.of (T' := T394) (f' := (mkF m 44 #[.val (.int p0), .val (.int p1), .val (.int p2), .val (.int p3), .val (.ref s_UNORDERED), .val (.int (0 : Int32)), .val (.ref b390), .unset, .unset, .unset, .unset] [])) (fun _ k => XS.astore X394.here hx rfl (hb hby at_42) rfl rfl (l' := #[.val (.int p0), .val (.int p1), .val (.int p2), .val (.int p3), .val (.ref s_UNORDERED), .val (.int (0 : Int32)), .val (.ref b390), .unset, .unset, .unset, .unset]) rfl k) ?_
      refine GoS.of (T' := T394) (f' := (mkF m 45 #[.val (.int p0), .val (.int p1), .val (.int p2), .val (.int p3), .val (.ref s_UNORDERED), .val (.int (0 : Int32)), .val (.ref b390), .unset, .unset, .unset, .unset] [(.int (1 : Int32))])) (fun _ k => XS.iconst X394.here hx rfl (hb hby at_44) k) ?_
      have f398 : Exa Z h394 b390 "[C" := (Exa.wr W394 A390)
      obtain ⟨T397, h397, k397, b397, q397, X397, e397, E397, V397, A397, st397⟩ := newAr X394 hx hZ (hw _ (List.mem_of_getElem? (i := 3) rfl)) e394 (g := (mkF m 45 #[.val (.int p0), .val (.int p1), .val (.int p2), .val (.int p3), .val (.ref s_UNORDERED), .val (.int (0 : Int32)), .val (.ref b390), .unset, .unset, .unset, .unset] [(.int (1 : Int32))])) rfl (hb hby at_45) rfl (by decide) (cap := 1) (by decide) (by decide) (by decide) (by decide) (ad := "[C") (by decide)
      have O400 := Old0.ext O396 E397
      have K400 := Keep.ext K396 E397
      have C399 := CHr.trans C395 (CHr.ext E397 C395.1)
      have hk := Nat.le_trans hk E397.1
      have g_b397 : Z.heap.size ≤ b397 := q397 ▸ O396.1
      have z_b397 : h0.size ≤ b397 := q397 ▸ K396.1
      have ne_b390_b397 : b390 ≠ b397 := q397 ▸ Nat.ne_of_lt f398.lt
      have f401 : Arv Z h397 b397 k397 .char (1 : Int32) [(.int (0 : Int32))] (.int (0 : Int32)) := Arv.pad V397 (pad_rep [] (.int (0 : Int32)) 1)
      refine GoS.of (T' := T397) (f' := (mkF m 47 #[.val (.int p0), .val (.int p1), .val (.int p2), .val (.int p3), .val (.ref s_UNORDERED), .val (.int (0 : Int32)), .val (.ref b390), .unset, .unset, .unset, .unset] [(.ref b397)])) (fun _ k => st397 _ k) ?_
      refine GoS.of (T' := T397) (f' := (mkF m 48 #[.val (.int p0), .val (.int p1), .val (.int p2), .val (.int p3), .val (.ref s_UNORDERED), .val (.int (0 : Int32)), .val (.ref b390), .unset, .unset, .unset, .unset] [(.ref b397), (.ref b397)])) (fun _ k => XS.dup X397.here hx rfl (hb hby at_47) rfl rfl k) ?_
      refine GoS.of (T' := T397) (f' := (mkF m 49 #[.val (.int p0), .val (.int p1), .val (.int p2), .val (.int p3), .val (.ref s_UNORDERED), .val (.int (0 : Int32)), .val (.ref b390), .unset, .unset, .unset, .unset] [(.int (0 : Int32)), (.ref b397), (.ref b397)])) (fun _ k => XS.iconst X397.here hx rfl (hb hby at_48) k) ?_
      refine GoS.of (T' := T397) (f' := (mkF m 50 #[.val (.int p0), .val (.int p1), .val (.int p2), .val (.int p3), .val (.ref s_UNORDERED), .val (.int (0 : Int32)), .val (.ref b390), .unset, .unset, .unset, .unset] [(.int p3), (.int (0 : Int32)), (.ref b397), (.ref b397)])) (fun _ k => XS.iloadN X397.here hx rfl (hb hby at_49) rfl k) ?_
      refine GoS.of (T' := T397) (f' := (mkF m 52 #[.val (.int p0), .val (.int p1), .val (.int p2), .val (.int p3), .val (.ref s_UNORDERED), .val (.int (0 : Int32)), .val (.ref b390), .unset, .unset, .unset, .unset] [(.int (8 : Int32)), (.int p3), (.int (0 : Int32)), (.ref b397), (.ref b397)])) (fun _ k => XS.bipush X397.here hx rfl (hb hby at_50) k) ?_
      refine GoS.of (T' := T397) (f' := (mkF m 53 #[.val (.int p0), .val (.int p1), .val (.int p2), .val (.int p3), .val (.ref s_UNORDERED), .val (.int (0 : Int32)), .val (.ref b390), .unset, .unset, .unset, .unset] [(.int ((p3.toUInt32 >>> ((8 : Int32) &&& 31).toUInt32).toInt32)), (.int (0 : Int32)), (.ref b397), (.ref b397)])) (fun _ k => XS.iushr X397.here hx rfl (hb hby at_52) rfl k) ?_
      generalize hy8 : (((p3.toUInt32 >>> ((8 : Int32) &&& 31).toUInt32).toInt32) : Int32) = y8
      refine GoS.of (T' := T397) (f' := (mkF m 56 #[.val (.int p0), .val (.int p1), .val (.int p2), .val (.int p3), .val (.ref s_UNORDERED), .val (.int (0 : Int32)), .val (.ref b390), .unset, .unset, .unset, .unset] [(.int (255 : Int32)), (.int y8), (.int (0 : Int32)), (.ref b397), (.ref b397)])) (fun _ k => XS.sipush X397.here hx rfl (hb hby at_53) k) ?_
      refine GoS.of (T' := T397) (f' := (mkF m 57 #[.val (.int p0), .val (.int p1), .val (.int p2), .val (.int p3), .val (.ref s_UNORDERED), .val (.int (0 : Int32)), .val (.ref b390), .unset, .unset, .unset, .unset] [(.int (y8 &&& (255 : Int32))), (.int (0 : Int32)), (.ref b397), (.ref b397)])) (fun _ k => XS.iand X397.here hx rfl (hb hby at_56) rfl k) ?_
      refine GoS.of (T' := T397) (f' := (mkF m 58 #[.val (.int p0), .val (.int p1), .val (.int p2), .val (.int p3), .val (.ref s_UNORDERED), .val (.int (0 : Int32)), .val (.ref b390), .unset, .unset, .unset, .unset] [(.int ((y8 &&& (255 : Int32)).toUInt32.toUInt16.toUInt32.toInt32)), (.int (0 : Int32)), (.ref b397), (.ref b397)])) (fun _ k => XS.i2c X397.here hx rfl (hb hby at_57) rfl k) ?_
      obtain ⟨cl402, Ar402, qk402, S402, Ng402, H402, G402⟩ := id f401
      obtain ⟨T402, h402, X402, e402, W402, st402⟩ := stC X397 hx hZ e397 Ar402 (j := (0 : Int32)) (inb_of S402 ⟨by decide, by decide⟩) (g := (mkF m 58 #[.val (.int p0), .val (.int p1), .val (.int p2), .val (.int p3), .val (.ref s_UNORDERED), .val (.int (0 : Int32)), .val (.ref b390), .unset, .unset, .unset, .unset] [(.int ((y8 &&& (255 : Int32)).toUInt32.toUInt16.toUInt32.toInt32)), (.int (0 : Int32)), (.ref b397), (.ref b397)])) rfl rfl (hb hby at_58)
      have W402 : Wr h397 h402 b397 ((0 : Int32)).toNatClampNeg (.int (y8 &&& (255 : Int32))) := Eq.mp (congrArg (fun z => Wr h397 h402 b397 ((0 : Int32)).toNatClampNeg (Value.int z)) (own_c255 y8)) W402
      have O404 := Old0.wr O400 W402 g_b397
      have K404 := Keep.wr K400 W402 (Or.inr z_b397)
      have C403 := CHr.trans C399 (CHr.wr W402 (Safe.exa hZ.alike A397 (by decide) (by decide)) C399.1)
      have hk := Nat.le_trans hk (Keep.of_wr W402).1
      have f402 : Arv Z h402 b397 k397 .char (1 : Int32) [(.int (y8 &&& (255 : Int32)))] (.int (0 : Int32)) := Arv.set Ar402 qk402 S402 Ng402 H402 G402 (v := (.int (y8 &&& (255 : Int32)))) (own_f255 y8) W402 0 rfl (Nat.le_of_ble_eq_true rfl)
      have N402 := Fr.snoc X402 N394 g_b397
      refine GoS.of (T' := T402) (f' := (mkF m 59 #[.val (.int p0), .val (.int p1), .val (.int p2), .val (.int p3), .val (.ref s_UNORDERED), .val (.int (0 : Int32)), .val (.ref b390), .unset, .unset, .unset, .unset] [(.ref b397)])) (fun _ k => st402 _ k) ?_
      refine GoS.of (T' := T402) (f' := (mkF m 61 #[.val (.int p0), .val (.int p1), .val (.int p2), .val (.int p3), .val (.ref s_UNORDERED), .val (.int (0 : Int32)), .val (.ref b390), .val (.ref b397), .unset, .unset, .unset] [])) (fun _ k => XS.astore X402.here hx rfl (hb hby at_59) rfl rfl (l' := #[.val (.int p0), .val (.int p1), .val (.int p2), .val (.int p3), .val (.ref s_UNORDERED), .val (.int (0 : Int32)), .val (.ref b390), .val (.ref b397), .unset, .unset, .unset]) rfl k) ?_
      refine GoS.of (T' := T402) (f' := (mkF m 62 #[.val (.int p0), .val (.int p1), .val (.int p2), .val (.int p3), .val (.ref s_UNORDERED), .val (.int (0 : Int32)), .val (.ref b390), .val (.ref b397), .unset, .unset, .unset] [(.int (1 : Int32))])) (fun _ k => XS.iconst X402.here hx rfl (hb hby at_61) k) ?_
      have f406 : Exa Z h402 b390 "[C" := (Exa.wr W402 (Exa.ext E397 f398))
      have f407 : Exa Z h402 b397 "[C" := (Exa.wr W402 A397)
      obtain ⟨T405, h405, k405, b405, q405, X405, e405, E405, V405, A405, st405⟩ := newAr X402 hx hZ (hw _ (List.mem_of_getElem? (i := 3) rfl)) e402 (g := (mkF m 62 #[.val (.int p0), .val (.int p1), .val (.int p2), .val (.int p3), .val (.ref s_UNORDERED), .val (.int (0 : Int32)), .val (.ref b390), .val (.ref b397), .unset, .unset, .unset] [(.int (1 : Int32))])) rfl (hb hby at_62) rfl (by decide) (cap := 1) (by decide) (by decide) (by decide) (by decide) (ad := "[C") (by decide)
      have O409 := Old0.ext O404 E405
      have K409 := Keep.ext K404 E405
      have C408 := CHr.trans C403 (CHr.ext E405 C403.1)
      have hk := Nat.le_trans hk E405.1
      have g_b405 : Z.heap.size ≤ b405 := q405 ▸ O404.1
      have z_b405 : h0.size ≤ b405 := q405 ▸ K404.1
      have ne_b390_b405 : b390 ≠ b405 := q405 ▸ Nat.ne_of_lt f406.lt
      have ne_b397_b405 : b397 ≠ b405 := q405 ▸ Nat.ne_of_lt f407.lt
      have f410 : Arv Z h405 b405 k405 .char (1 : Int32) [(.int (0 : Int32))] (.int (0 : Int32)) := Arv.pad V405 (pad_rep [] (.int (0 : Int32)) 1)
      refine GoS.of (T' := T405) (f' := (mkF m 64 #[.val (.int p0), .val (.int p1), .val (.int p2), .val (.int p3), .val (.ref s_UNORDERED), .val (.int (0 : Int32)), .val (.ref b390), .val (.ref b397), .unset, .unset, .unset] [(.ref b405)])) (fun _ k => st405 _ k) ?_
      refine GoS.of (T' := T405) (f' := (mkF m 65 #[.val (.int p0), .val (.int p1), .val (.int p2), .val (.int p3), .val (.ref s_UNORDERED), .val (.int (0 : Int32)), .val (.ref b390), .val (.ref b397), .unset, .unset, .unset] [(.ref b405), (.ref b405)])) (fun _ k => XS.dup X405.here hx rfl (hb hby at_64) rfl rfl k) ?_
      refine GoS.of (T' := T405) (f' := (mkF m 66 #[.val (.int p0), .val (.int p1), .val (.int p2), .val (.int p3), .val (.ref s_UNORDERED), .val (.int (0 : Int32)), .val (.ref b390), .val (.ref b397), .unset, .unset, .unset] [(.int (0 : Int32)), (.ref b405), (.ref b405)])) (fun _ k => XS.iconst X405.here hx rfl (hb hby at_65) k) ?_
      refine GoS.of (T' := T405) (f' := (mkF m 67 #[.val (.int p0), .val (.int p1), .val (.int p2), .val (.int p3), .val (.ref s_UNORDERED), .val (.int (0 : Int32)), .val (.ref b390), .val (.ref b397), .unset, .unset, .unset] [(.int p3), (.int (0 : Int32)), (.ref b405), (.ref b405)])) (fun _ k => XS.iloadN X405.here hx rfl (hb hby at_66) rfl k) ?_
      refine GoS.of (T' := T405) (f' := (mkF m 69 #[.val (.int p0), .val (.int p1), .val (.int p2), .val (.int p3), .val (.ref s_UNORDERED), .val (.int (0 : Int32)), .val (.ref b390), .val (.ref b397), .unset, .unset, .unset] [(.int (16 : Int32)), (.int p3), (.int (0 : Int32)), (.ref b405), (.ref b405)])) (fun _ k => XS.bipush X405.here hx rfl (hb hby at_67) k) ?_
      refine GoS.of (T' := T405) (f' := (mkF m 70 #[.val (.int p0), .val (.int p1), .val (.int p2), .val (.int p3), .val (.ref s_UNORDERED), .val (.int (0 : Int32)), .val (.ref b390), .val (.ref b397), .unset, .unset, .unset] [(.int ((p3.toUInt32 >>> ((16 : Int32) &&& 31).toUInt32).toInt32)), (.int (0 : Int32)), (.ref b405), (.ref b405)])) (fun _ k => XS.iushr X405.here hx rfl (hb hby at_69) rfl k) ?_
      generalize hy16 : (((p3.toUInt32 >>> ((16 : Int32) &&& 31).toUInt32).toInt32) : Int32) = y16
      refine GoS.of (T' := T405) (f' := (mkF m 73 #[.val (.int p0), .val (.int p1), .val (.int p2), .val (.int p3), .val (.ref s_UNORDERED), .val (.int (0 : Int32)), .val (.ref b390), .val (.ref b397), .unset, .unset, .unset] [(.int (255 : Int32)), (.int y16), (.int (0 : Int32)), (.ref b405), (.ref b405)])) (fun _ k => XS.sipush X405.here hx rfl (hb hby at_70) k) ?_
      refine GoS.of (T' := T405) (f' := (mkF m 74 #[.val (.int p0), .val (.int p1), .val (.int p2), .val (.int p3), .val (.ref s_UNORDERED), .val (.int (0 : Int32)), .val (.ref b390), .val (.ref b397), .unset, .unset, .unset] [(.int (y16 &&& (255 : Int32))), (.int (0 : Int32)), (.ref b405), (.ref b405)])) (fun _ k => XS.iand X405.here hx rfl (hb hby at_73) rfl k) ?_
      refine GoS.of (T' := T405) (f' := (mkF m 75 #[.val (.int p0), .val (.int p1), .val (.int p2), .val (.int p3), .val (.ref s_UNORDERED), .val (.int (0 : Int32)), .val (.ref b390), .val (.ref b397), .unset, .unset, .unset] [(.int ((y16 &&& (255 : Int32)).toUInt32.toUInt16.toUInt32.toInt32)), (.int (0 : Int32)), (.ref b405), (.ref b405)])) (fun _ k => XS.i2c X405.here hx rfl (hb hby at_74) rfl k) ?_
      obtain ⟨cl411, Ar411, qk411, S411, Ng411, H411, G411⟩ := id f410
      obtain ⟨T411, h411, X411, e411, W411, st411⟩ := stC X405 hx hZ e405 Ar411 (j := (0 : Int32)) (inb_of S411 ⟨by decide, by decide⟩) (g := (mkF m 75 #[.val (.int p0), .val (.int p1), .val (.int p2), .val (.int p3), .val (.ref s_UNORDERED), .val (.int (0 : Int32)), .val (.ref b390), .val (.ref b397), .unset, .unset, .unset] [(.int ((y16 &&& (255 : Int32)).toUInt32.toUInt16.toUInt32.toInt32)), (.int (0 : Int32)), (.ref b405), (.ref b405)])) rfl rfl (hb hby at_75)
      have W411 : Wr h405 h411 b405 ((0 : Int32)).toNatClampNeg (.int (y16 &&& (255 : Int32))) := Eq.mp (congrArg (fun z => Wr h405 h411 b405 ((0 : Int32)).toNatClampNeg (Value.int z)) (own_c255 y16)) W411
      have O413 := Old0.wr O409 W411 g_b405
      have K413 := Keep.wr K409 W411 (Or.inr z_b405)
      have C412 := CHr.trans C408 (CHr.wr W411 (Safe.exa hZ.alike A405 (by decide) (by decide)) C408.1)
      have hk := Nat.le_trans hk (Keep.of_wr W411).1
      have f411 : Arv Z h411 b405 k405 .char (1 : Int32) [(.int (y16 &&& (255 : Int32)))] (.int (0 : Int32)) := Arv.set Ar411 qk411 S411 Ng411 H411 G411 (v := (.int (y16 &&& (255 : Int32)))) (own_f255 y16) W411 0 rfl (Nat.le_of_ble_eq_true rfl)
      have N411 := Fr.snoc X411 N402 g_b405
      refine GoS.of (T' := T411) (f' := (mkF m 76 #[.val (.int p0), .val (.int p1), .val (.int p2), .val (.int p3), .val (.ref s_UNORDERED), .val (.int (0 : Int32)), .val (.ref b390), .val (.ref b397), .unset, .unset, .unset] [(.ref b405)])) (fun _ k => st411 _ k) ?_
      refine GoS.of (T' := T411) (f' := (mkF m 78 #[.val (.int p0), .val (.int p1), .val (.int p2), .val (.int p3), .val (.ref s_UNORDERED), .val (.int (0 : Int32)), .val (.ref b390), .val (.ref b397), .val (.ref b405), .unset, .unset] [])) (fun _ k => XS.astore X411.here hx rfl (hb hby at_76) rfl rfl (l' := #[.val (.int p0), .val (.int p1), .val (.int p2), .val (.int p3), .val (.ref s_UNORDERED), .val (.int (0 : Int32)), .val (.ref b390), .val (.ref b397), .val (.ref b405), .unset, .unset]) rfl k) ?_
      have f415 : Exa Z h411 b390 "[C" := (Exa.wr W411 (Exa.ext E405 f406))
      have f416 : Exa Z h411 b397 "[C" := (Exa.wr W411 (Exa.ext E405 f407))
      have f417 : Exa Z h411 b405 "[C" := (Exa.wr W411 A405)
      obtain ⟨T414, h414, b414, q414, X414, e414, E414, A414, D414, st414⟩ := newOb X411 hx hZ hown (hw _ (List.mem_of_getElem? (i := 4) rfl)) (hw _ (List.mem_of_getElem? (i := 5) rfl)) (hw _ (List.mem_of_getElem? (i := 6) rfl)) e411 (g := (mkF m 78 #[.val (.int p0), .val (.int p1), .val (.int p2), .val (.int p3), .val (.ref s_UNORDERED), .val (.int (0 : Int32)), .val (.ref b390), .val (.ref b397), .val (.ref b405), .unset, .unset] [])) rfl (hb hby at_78) (by decide) (by decide)
      have O419 := Old0.ext O413 E414
      have K419 := Keep.ext K413 E414
      have C418 := CHr.trans C412 (CHr.ext E414 C412.1)
      have hk := Nat.le_trans hk E414.1
      have g_b414 : Z.heap.size ≤ b414 := q414 ▸ O413.1
      have z_b414 : h0.size ≤ b414 := q414 ▸ K413.1
      have ne_b390_b414 : b390 ≠ b414 := q414 ▸ Nat.ne_of_lt f415.lt
      have ne_b397_b414 : b397 ≠ b414 := q414 ▸ Nat.ne_of_lt f416.lt
      have ne_b405_b414 : b405 ≠ b414 := q414 ▸ Nat.ne_of_lt f417.lt
      have f420 : Fld Z h414 b414 "com/example/mailroom/mailroom/core/Envelope" "sender" "Ljava/lang/String;" .null := D414 (Or.inr (hw _ (List.mem_of_getElem? (i := 63) rfl))) (ty := (.object "java/lang/String")) (by decide)
      have f421 : Fld Z h414 b414 "com/example/mailroom/mailroom/core/Envelope" "receiver" "Ljava/lang/String;" .null := D414 (Or.inr (hw _ (List.mem_of_getElem? (i := 65) rfl))) (ty := (.object "java/lang/String")) (by decide)
      have f422 : Fld Z h414 b414 "com/example/mailroom/mailroom/core/Envelope" "number" "I" (.int (0 : Int32)) := D414 (Or.inr (hw _ (List.mem_of_getElem? (i := 67) rfl))) (ty := .int) (by decide)
      have f423 : Fld Z h414 b414 "com/example/mailroom/mailroom/core/Envelope" "message" "Ljava/lang/Object;" .null := D414 (Or.inr (hw _ (List.mem_of_getElem? (i := 69) rfl))) (ty := (.object "java/lang/Object")) (by decide)
      have f424 : Fld Z h414 b414 "com/example/mailroom/mailroom/core/Envelope" "replyTo" "Ljava/lang/String;" .null := D414 (Or.inr (hw _ (List.mem_of_getElem? (i := 71) rfl))) (ty := (.object "java/lang/String")) (by decide)
      have f425 : Fld Z h414 b414 "com/example/mailroom/mailroom/core/Envelope" "scheduled" "Z" (.int (0 : Int32)) := D414 (Or.inr (hw _ (List.mem_of_getElem? (i := 73) rfl))) (ty := .boolean) (by decide)
      refine GoS.of (T' := T414) (f' := (mkF m 81 #[.val (.int p0), .val (.int p1), .val (.int p2), .val (.int p3), .val (.ref s_UNORDERED), .val (.int (0 : Int32)), .val (.ref b390), .val (.ref b397), .val (.ref b405), .unset, .unset] [(.ref b414)])) (fun _ k => st414 _ k) ?_
      refine GoS.of (T' := T414) (f' := (mkF m 82 #[.val (.int p0), .val (.int p1), .val (.int p2), .val (.int p3), .val (.ref s_UNORDERED), .val (.int (0 : Int32)), .val (.ref b390), .val (.ref b397), .val (.ref b405), .unset, .unset] [(.ref b414), (.ref b414)])) (fun _ k => XS.dup X414.here hx rfl (hb hby at_81) rfl rfl k) ?_
      have f427 : Exa Z h414 b390 "[C" := (Exa.ext E414 f415)
      have f428 : Exa Z h414 b397 "[C" := (Exa.ext E414 f416)
      have f429 : Exa Z h414 b405 "[C" := (Exa.ext E414 f417)
      obtain ⟨T426, h426, b426, q426, X426, e426, E426, A426, D426, st426⟩ := newOb X414 hx hZ hown (hw _ (List.mem_of_getElem? (i := 7) rfl)) (hw _ (List.mem_of_getElem? (i := 8) rfl)) (hw _ (List.mem_of_getElem? (i := 9) rfl)) e414 (g := (mkF m 82 #[.val (.int p0), .val (.int p1), .val (.int p2), .val (.int p3), .val (.ref s_UNORDERED), .val (.int (0 : Int32)), .val (.ref b390), .val (.ref b397), .val (.ref b405), .unset, .unset] [(.ref b414), (.ref b414)])) rfl (hb hby at_82) (by decide) (by decide)
      have O431 := Old0.ext O419 E426
      have K431 := Keep.ext K419 E426
      have C430 := CHr.trans C418 (CHr.ext E426 C418.1)
      have hk := Nat.le_trans hk E426.1
      have g_b426 : Z.heap.size ≤ b426 := q426 ▸ O419.1
      have z_b426 : h0.size ≤ b426 := q426 ▸ K419.1
      have ne_b390_b426 : b390 ≠ b426 := q426 ▸ Nat.ne_of_lt f427.lt
      have ne_b397_b426 : b397 ≠ b426 := q426 ▸ Nat.ne_of_lt f428.lt
      have ne_b405_b426 : b405 ≠ b426 := q426 ▸ Nat.ne_of_lt f429.lt
      have ne_b414_b426 : b414 ≠ b426 := q426 ▸ Nat.ne_of_lt A414.lt
      have f432 : Fld Z h426 b426 "java/lang/String" "coder" "B" (.int (0 : Int32)) := D426 (Or.inr (hw _ (List.mem_of_getElem? (i := 33) rfl))) (ty := .byte) (by decide)
      have f433 : Fld Z h426 b426 "java/lang/String" "value" "[B" .null := D426 (Or.inr (hw _ (List.mem_of_getElem? (i := 35) rfl))) (ty := (.array .byte)) (by decide)
      refine GoS.of (T' := T426) (f' := (mkF m 85 #[.val (.int p0), .val (.int p1), .val (.int p2), .val (.int p3), .val (.ref s_UNORDERED), .val (.int (0 : Int32)), .val (.ref b390), .val (.ref b397), .val (.ref b405), .unset, .unset] [(.ref b426), (.ref b414), (.ref b414)])) (fun _ k => st426 _ k) ?_
      refine GoS.of (T' := T426) (f' := (mkF m 86 #[.val (.int p0), .val (.int p1), .val (.int p2), .val (.int p3), .val (.ref s_UNORDERED), .val (.int (0 : Int32)), .val (.ref b390), .val (.ref b397), .val (.ref b405), .unset, .unset] [(.ref b426), (.ref b426), (.ref b414), (.ref b414)])) (fun _ k => XS.dup X426.here hx rfl (hb hby at_85) rfl rfl k) ?_
      refine GoS.of (T' := T426) (f' := (mkF m 88 #[.val (.int p0), .val (.int p1), .val (.int p2), .val (.int p3), .val (.ref s_UNORDERED), .val (.int (0 : Int32)), .val (.ref b390), .val (.ref b397), .val (.ref b405), .unset, .unset] [(.ref b390), (.ref b426), (.ref b426), (.ref b414), (.ref b414)])) (fun _ k => XS.aload X426.here hx rfl (hb hby at_86) rfl rfl k) ?_
      have f435 : Arv Z h426 b390 k390 .char (1 : Int32) [(.int (p3 &&& (255 : Int32)))] (.int (0 : Int32)) := (Arv.ext (Arv.ext (Arv.other (Arv.ext (Arv.other (Arv.ext f394 E397) W402 ne_b390_b397) E405) W411 ne_b390_b405) E414) E426)
      have f436 : Exa Z h426 b390 "[C" := (Exa.ext E426 f427)
      have f437 : Exa Z h426 b397 "[C" := (Exa.ext E426 f428)
      have f438 : Exa Z h426 b405 "[C" := (Exa.ext E426 f429)
      have f439 : Exa Z h426 b414 "com/example/mailroom/mailroom/core/Envelope" := (Exa.ext E426 A414)
      obtain ⟨T434, v434, L434, X434, q434, st434⟩ := callNew X426 hx hZ (y := (⟨"java/lang/String", "<init>", "([C)V"⟩ : MethodName)) rfl hown (hw _ (List.mem_of_getElem? (i := 10) rfl)) (hw _ (List.mem_of_getElem? (i := 11) rfl)) (hw _ (List.mem_of_getElem? (i := 9) rfl)) (hw _ (List.mem_of_getElem? (i := 12) rfl)) (by decide) (rm_str_1 hw G b426 b390 k390 ((p3 &&& (255 : Int32))) h426 O431 (own_le255 _) A426 f433 f432 g_b426 f435 (Ne.symm ne_b390_b426)) e426 (W := 3) (by decide) (by decide) (by decide) (by decide) (g := (mkF m 88 #[.val (.int p0), .val (.int p1), .val (.int p2), .val (.int p3), .val (.ref s_UNORDERED), .val (.int (0 : Int32)), .val (.ref b390), .val (.ref b397), .val (.ref b405), .unset, .unset] [(.ref b390), (.ref b426), (.ref b426), (.ref b414), (.ref b414)])) rfl (by rw [hml]; rfl) (a := b426) (argsL := [(.ref b390)]) (rest := [(.ref b426), (.ref b414), (.ref b414)]) (lenOf pd___C_V rfl) rfl rfl (by show 2 * 0 + _ ≤ _; exact Nat.le_of_eq rfl) (hb hby at_88)
      obtain ⟨da_434, kd_434, rfl, N434q, K434q, p434_0, p434_1, p434_2, p434_3, p434_4⟩ := q434
      have N434 := Fr.app N411 N434q
      have sf441 : Safe Z own_EL s.vm h426 b426 := (Safe.ext E426 C418.1 (Safe.new (Nat.le_of_eq q426.symm)))
      have O442 := Old0.keep O431 K434q (allS g_b426 all0)
      have K442 := Keep.trans K431 K434q (allS (Or.inr z_b426) all0)
      have C440 := CHr.trans C430 (CHr.keep K434q (sfS sf441 sf0) C430.1)
      have hk := Nat.le_trans hk K434q.1
      have z_da_434 : h0.size ≤ da_434 := Nat.le_trans K431.1 p434_0
      have g_da_434 : Z.heap.size ≤ da_434 := Nat.le_trans O431.1 p434_0
      have ne_b390_da_434 : b390 ≠ da_434 := Nat.ne_of_lt (Nat.lt_of_lt_of_le f436.lt p434_0)
      have ne_b397_da_434 : b397 ≠ da_434 := Nat.ne_of_lt (Nat.lt_of_lt_of_le f437.lt p434_0)
      have ne_b405_da_434 : b405 ≠ da_434 := Nat.ne_of_lt (Nat.lt_of_lt_of_le f438.lt p434_0)
      have ne_b414_da_434 : b414 ≠ da_434 := Nat.ne_of_lt (Nat.lt_of_lt_of_le f439.lt p434_0)
      have ne_b426_da_434 : b426 ≠ da_434 := Nat.ne_of_lt (Nat.lt_of_lt_of_le A426.lt p434_0)
      refine GoS.of (T' := T434) (f' := (mkF m 91 #[.val (.int p0), .val (.int p1), .val (.int p2), .val (.int p3), .val (.ref s_UNORDERED), .val (.int (0 : Int32)), .val (.ref b390), .val (.ref b397), .val (.ref b405), .unset, .unset] [(.ref b426), (.ref b414), (.ref b414)])) (fun _ k => st434 _ k) ?_
      have f444 : Exa Z T434.heap b390 "[C" := (Exa.keep f436 K434q)
      have f445 : Exa Z T434.heap b397 "[C" := (Exa.keep f437 K434q)
      have f446 : Exa Z T434.heap b405 "[C" := (Exa.keep f438 K434q)
      have f447 : Exa Z T434.heap b414 "com/example/mailroom/mailroom/core/Envelope" := (Exa.keep f439 K434q)
      have f448 : Exa Z T434.heap b426 "java/lang/String" := (Exa.keep A426 K434q)
      obtain ⟨T443, h443, b443, q443, X443, e443, E443, A443, D443, st443⟩ := newOb X434 hx hZ hown (hw _ (List.mem_of_getElem? (i := 7) rfl)) (hw _ (List.mem_of_getElem? (i := 8) rfl)) (hw _ (List.mem_of_getElem? (i := 9) rfl)) rfl (g := (mkF m 91 #[.val (.int p0), .val (.int p1), .val (.int p2), .val (.int p3), .val (.ref s_UNORDERED), .val (.int (0 : Int32)), .val (.ref b390), .val (.ref b397), .val (.ref b405), .unset, .unset] [(.ref b426), (.ref b414), (.ref b414)])) rfl (hb hby at_91) (by decide) (by decide)
      have O450 := Old0.ext O442 E443
      have K450 := Keep.ext K442 E443
      have C449 := CHr.trans C440 (CHr.ext E443 C440.1)
      have hk := Nat.le_trans hk E443.1
      have g_b443 : Z.heap.size ≤ b443 := q443 ▸ O442.1
      have z_b443 : h0.size ≤ b443 := q443 ▸ K442.1
      have ne_b390_b443 : b390 ≠ b443 := q443 ▸ Nat.ne_of_lt f444.lt
      have ne_b397_b443 : b397 ≠ b443 := q443 ▸ Nat.ne_of_lt f445.lt
      have ne_b405_b443 : b405 ≠ b443 := q443 ▸ Nat.ne_of_lt f446.lt
      have ne_b414_b443 : b414 ≠ b443 := q443 ▸ Nat.ne_of_lt f447.lt
      have ne_b426_b443 : b426 ≠ b443 := q443 ▸ Nat.ne_of_lt f448.lt
      have ne_da_434_b443 : da_434 ≠ b443 := q443 ▸ Nat.ne_of_lt p434_4.lt
      have f451 : Fld Z h443 b443 "java/lang/String" "coder" "B" (.int (0 : Int32)) := D443 (Or.inr (hw _ (List.mem_of_getElem? (i := 33) rfl))) (ty := .byte) (by decide)
      have f452 : Fld Z h443 b443 "java/lang/String" "value" "[B" .null := D443 (Or.inr (hw _ (List.mem_of_getElem? (i := 35) rfl))) (ty := (.array .byte)) (by decide)
      refine GoS.of (T' := T443) (f' := (mkF m 94 #[.val (.int p0), .val (.int p1), .val (.int p2), .val (.int p3), .val (.ref s_UNORDERED), .val (.int (0 : Int32)), .val (.ref b390), .val (.ref b397), .val (.ref b405), .unset, .unset] [(.ref b443), (.ref b426), (.ref b414), (.ref b414)])) (fun _ k => st443 _ k) ?_
      refine GoS.of (T' := T443) (f' := (mkF m 95 #[.val (.int p0), .val (.int p1), .val (.int p2), .val (.int p3), .val (.ref s_UNORDERED), .val (.int (0 : Int32)), .val (.ref b390), .val (.ref b397), .val (.ref b405), .unset, .unset] [(.ref b443), (.ref b443), (.ref b426), (.ref b414), (.ref b414)])) (fun _ k => XS.dup X443.here hx rfl (hb hby at_94) rfl rfl k) ?_
      refine GoS.of (T' := T443) (f' := (mkF m 97 #[.val (.int p0), .val (.int p1), .val (.int p2), .val (.int p3), .val (.ref s_UNORDERED), .val (.int (0 : Int32)), .val (.ref b390), .val (.ref b397), .val (.ref b405), .unset, .unset] [(.ref b397), (.ref b443), (.ref b443), (.ref b426), (.ref b414), (.ref b414)])) (fun _ k => XS.aload X443.here hx rfl (hb hby at_95) rfl rfl k) ?_
      have f454 : Arv Z h443 b397 k397 .char (1 : Int32) [(.int (y8 &&& (255 : Int32)))] (.int (0 : Int32)) := (Arv.ext (Arv.keep (Arv.ext (Arv.ext (Arv.other (Arv.ext f402 E405) W411 ne_b397_b405) E414) E426) K434q (ninS ne_b397_b426 nin0)) E443)
      have f455 : Exa Z h443 b390 "[C" := (Exa.ext E443 f444)
      have f456 : Exa Z h443 b397 "[C" := (Exa.ext E443 f445)
      have f457 : Exa Z h443 b405 "[C" := (Exa.ext E443 f446)
      have f458 : Exa Z h443 b414 "com/example/mailroom/mailroom/core/Envelope" := (Exa.ext E443 f447)
      have f459 : Exa Z h443 b426 "java/lang/String" := (Exa.ext E443 f448)
      have f460 : Exa Z h443 da_434 "[B" := (Exa.ext E443 p434_4)
      obtain ⟨T453, v453, L453, X453, q453, st453⟩ := callNew X443 hx hZ (y := (⟨"java/lang/String", "<init>", "([C)V"⟩ : MethodName)) rfl hown (hw _ (List.mem_of_getElem? (i := 10) rfl)) (hw _ (List.mem_of_getElem? (i := 11) rfl)) (hw _ (List.mem_of_getElem? (i := 9) rfl)) (hw _ (List.mem_of_getElem? (i := 12) rfl)) (by decide) (rm_str_1 hw G b443 b397 k397 ((y8 &&& (255 : Int32))) h443 O450 (own_le255 _) A443 f452 f451 g_b443 f454 (Ne.symm ne_b397_b443)) e443 (W := 4) (by decide) (by decide) (by decide) (by decide) (g := (mkF m 97 #[.val (.int p0), .val (.int p1), .val (.int p2), .val (.int p3), .val (.ref s_UNORDERED), .val (.int (0 : Int32)), .val (.ref b390), .val (.ref b397), .val (.ref b405), .unset, .unset] [(.ref b397), (.ref b443), (.ref b443), (.ref b426), (.ref b414), (.ref b414)])) rfl (by rw [hml]; rfl) (a := b443) (argsL := [(.ref b397)]) (rest := [(.ref b443), (.ref b426), (.ref b414), (.ref b414)]) (lenOf pd___C_V rfl) rfl rfl (by show 2 * 0 + _ ≤ _; exact Nat.le_of_eq rfl) (hb hby at_97)
      obtain ⟨da_453, kd_453, rfl, N453q, K453q, p453_0, p453_1, p453_2, p453_3, p453_4⟩ := q453
      have N453 := Fr.app N434 N453q
      have sf462 : Safe Z own_EL s.vm h443 b443 := (Safe.ext E443 C440.1 (Safe.new (Nat.le_of_eq q443.symm)))
      have O463 := Old0.keep O450 K453q (allS g_b443 all0)
      have K463 := Keep.trans K450 K453q (allS (Or.inr z_b443) all0)
      have C461 := CHr.trans C449 (CHr.keep K453q (sfS sf462 sf0) C449.1)
      have hk := Nat.le_trans hk K453q.1
      have z_da_453 : h0.size ≤ da_453 := Nat.le_trans K450.1 p453_0
      have g_da_453 : Z.heap.size ≤ da_453 := Nat.le_trans O450.1 p453_0
      have ne_b390_da_453 : b390 ≠ da_453 := Nat.ne_of_lt (Nat.lt_of_lt_of_le f455.lt p453_0)
      have ne_b397_da_453 : b397 ≠ da_453 := Nat.ne_of_lt (Nat.lt_of_lt_of_le f456.lt p453_0)
      have ne_b405_da_453 : b405 ≠ da_453 := Nat.ne_of_lt (Nat.lt_of_lt_of_le f457.lt p453_0)
      have ne_b414_da_453 : b414 ≠ da_453 := Nat.ne_of_lt (Nat.lt_of_lt_of_le f458.lt p453_0)
      have ne_b426_da_453 : b426 ≠ da_453 := Nat.ne_of_lt (Nat.lt_of_lt_of_le f459.lt p453_0)
      have ne_da_434_da_453 : da_434 ≠ da_453 := Nat.ne_of_lt (Nat.lt_of_lt_of_le f460.lt p453_0)
      have ne_b443_da_453 : b443 ≠ da_453 := Nat.ne_of_lt (Nat.lt_of_lt_of_le A443.lt p453_0)
      refine GoS.of (T' := T453) (f' := (mkF m 100 #[.val (.int p0), .val (.int p1), .val (.int p2), .val (.int p3), .val (.ref s_UNORDERED), .val (.int (0 : Int32)), .val (.ref b390), .val (.ref b397), .val (.ref b405), .unset, .unset] [(.ref b443), (.ref b426), (.ref b414), (.ref b414)])) (fun _ k => st453 _ k) ?_
      refine GoS.of (T' := T453) (f' := (mkF m 101 #[.val (.int p0), .val (.int p1), .val (.int p2), .val (.int p3), .val (.ref s_UNORDERED), .val (.int (0 : Int32)), .val (.ref b390), .val (.ref b397), .val (.ref b405), .unset, .unset] [(.int p2), (.ref b443), (.ref b426), (.ref b414), (.ref b414)])) (fun _ k => XS.iloadN X453.here hx rfl (hb hby at_100) rfl k) ?_
      refine GoS.of (T' := T453) (f' := (mkF m 102 #[.val (.int p0), .val (.int p1), .val (.int p2), .val (.int p3), .val (.ref s_UNORDERED), .val (.int (0 : Int32)), .val (.ref b390), .val (.ref b397), .val (.ref b405), .unset, .unset] [(.int p1), (.int p2), (.ref b443), (.ref b426), (.ref b414), (.ref b414)])) (fun _ k => XS.iloadN X453.here hx rfl (hb hby at_101) rfl k) ?_
      obtain ⟨T464, v464, L464, X464, q464, st464⟩ := callSt X453 hx hZ (y := (⟨"java/lang/Integer", "valueOf", "(I)Ljava/lang/Integer;"⟩ : MethodName)) hown (hw _ (List.mem_of_getElem? (i := 36) rfl)) (hw _ (List.mem_of_getElem? (i := 37) rfl)) (hw _ (List.mem_of_getElem? (i := 38) rfl)) (hw _ (List.mem_of_getElem? (i := 39) rfl)) (by decide) (rm_valueOf hw G p1  T453.heap O463 ) rfl (W := 5) (by decide) (by decide) (by decide) (by decide) (g := (mkF m 102 #[.val (.int p0), .val (.int p1), .val (.int p2), .val (.int p3), .val (.ref s_UNORDERED), .val (.int (0 : Int32)), .val (.ref b390), .val (.ref b397), .val (.ref b405), .unset, .unset] [(.int p1), (.int p2), (.ref b443), (.ref b426), (.ref b414), (.ref b414)])) rfl (by rw [hml]; rfl) (argsL := [(.int p1)]) (rest := [(.int p2), (.ref b443), (.ref b426), (.ref b414), (.ref b414)]) (lenOf pd__I_Ljava_lang_Integer_ rfl) rfl rfl (by show 2 * 0 + _ ≤ _; exact Nat.le_of_eq rfl) (hb hby at_102)
      obtain ⟨r_464, rfl, N464q, K464q⟩ := q464
      have N464 := Fr.app N453 N464q
      have O466 := Old0.keep O463 K464q all0
      have K466 := Keep.trans K463 K464q all0
      have C465 := CHr.trans C461 (CHr.keep K464q sf0 C461.1)
      have hk := Nat.le_trans hk K464q.1
      refine GoS.of (T' := T464) (f' := (mkF m 105 #[.val (.int p0), .val (.int p1), .val (.int p2), .val (.int p3), .val (.ref s_UNORDERED), .val (.int (0 : Int32)), .val (.ref b390), .val (.ref b397), .val (.ref b405), .unset, .unset] [(.ref r_464), (.int p2), (.ref b443), (.ref b426), (.ref b414), (.ref b414)])) (fun _ k => st464 _ k) ?_
      have f468 : Exa Z T464.heap b390 "[C" := (Exa.keep (Exa.keep f455 K453q) K464q)
      have f469 : Exa Z T464.heap b397 "[C" := (Exa.keep (Exa.keep f456 K453q) K464q)
      have f470 : Exa Z T464.heap b405 "[C" := (Exa.keep (Exa.keep f457 K453q) K464q)
      have f471 : Exa Z T464.heap b414 "com/example/mailroom/mailroom/core/Envelope" := (Exa.keep (Exa.keep f458 K453q) K464q)
      have f472 : Exa Z T464.heap b426 "java/lang/String" := (Exa.keep (Exa.keep f459 K453q) K464q)
      have f473 : Exa Z T464.heap da_434 "[B" := (Exa.keep (Exa.keep f460 K453q) K464q)
      have f474 : Exa Z T464.heap b443 "java/lang/String" := (Exa.keep (Exa.keep A443 K453q) K464q)
      have f475 : Exa Z T464.heap da_453 "[B" := (Exa.keep p453_4 K464q)
      obtain ⟨T467, h467, b467, q467, X467, e467, E467, A467, D467, st467⟩ := newOb X464 hx hZ hown (hw _ (List.mem_of_getElem? (i := 7) rfl)) (hw _ (List.mem_of_getElem? (i := 8) rfl)) (hw _ (List.mem_of_getElem? (i := 9) rfl)) rfl (g := (mkF m 105 #[.val (.int p0), .val (.int p1), .val (.int p2), .val (.int p3), .val (.ref s_UNORDERED), .val (.int (0 : Int32)), .val (.ref b390), .val (.ref b397), .val (.ref b405), .unset, .unset] [(.ref r_464), (.int p2), (.ref b443), (.ref b426), (.ref b414), (.ref b414)])) rfl (hb hby at_105) (by decide) (by decide)
      have O477 := Old0.ext O466 E467
      have K477 := Keep.ext K466 E467
      have C476 := CHr.trans C465 (CHr.ext E467 C465.1)
      have hk := Nat.le_trans hk E467.1
      have g_b467 : Z.heap.size ≤ b467 := q467 ▸ O466.1
      have z_b467 : h0.size ≤ b467 := q467 ▸ K466.1
      have ne_b390_b467 : b390 ≠ b467 := q467 ▸ Nat.ne_of_lt f468.lt
      have ne_b397_b467 : b397 ≠ b467 := q467 ▸ Nat.ne_of_lt f469.lt
      have ne_b405_b467 : b405 ≠ b467 := q467 ▸ Nat.ne_of_lt f470.lt
      have ne_b414_b467 : b414 ≠ b467 := q467 ▸ Nat.ne_of_lt f471.lt
      have ne_b426_b467 : b426 ≠ b467 := q467 ▸ Nat.ne_of_lt f472.lt
      have ne_da_434_b467 : da_434 ≠ b467 := q467 ▸ Nat.ne_of_lt f473.lt
      have ne_b443_b467 : b443 ≠ b467 := q467 ▸ Nat.ne_of_lt f474.lt
      have ne_da_453_b467 : da_453 ≠ b467 := q467 ▸ Nat.ne_of_lt f475.lt
      have f478 : Fld Z h467 b467 "java/lang/String" "coder" "B" (.int (0 : Int32)) := D467 (Or.inr (hw _ (List.mem_of_getElem? (i := 33) rfl))) (ty := .byte) (by decide)
      have f479 : Fld Z h467 b467 "java/lang/String" "value" "[B" .null := D467 (Or.inr (hw _ (List.mem_of_getElem? (i := 35) rfl))) (ty := (.array .byte)) (by decide)
      refine GoS.of (T' := T467) (f' := (mkF m 108 #[.val (.int p0), .val (.int p1), .val (.int p2), .val (.int p3), .val (.ref s_UNORDERED), .val (.int (0 : Int32)), .val (.ref b390), .val (.ref b397), .val (.ref b405), .unset, .unset] [(.ref b467), (.ref r_464), (.int p2), (.ref b443), (.ref b426), (.ref b414), (.ref b414)])) (fun _ k => st467 _ k) ?_
      refine GoS.of (T' := T467) (f' := (mkF m 109 #[.val (.int p0), .val (.int p1), .val (.int p2), .val (.int p3), .val (.ref s_UNORDERED), .val (.int (0 : Int32)), .val (.ref b390), .val (.ref b397), .val (.ref b405), .unset, .unset] [(.ref b467), (.ref b467), (.ref r_464), (.int p2), (.ref b443), (.ref b426), (.ref b414), (.ref b414)])) (fun _ k => XS.dup X467.here hx rfl (hb hby at_108) rfl rfl k) ?_
      refine GoS.of (T' := T467) (f' := (mkF m 111 #[.val (.int p0), .val (.int p1), .val (.int p2), .val (.int p3), .val (.ref s_UNORDERED), .val (.int (0 : Int32)), .val (.ref b390), .val (.ref b397), .val (.ref b405), .unset, .unset] [(.ref b405), (.ref b467), (.ref b467), (.ref r_464), (.int p2), (.ref b443), (.ref b426), (.ref b414), (.ref b414)])) (fun _ k => XS.aload X467.here hx rfl (hb hby at_109) rfl rfl k) ?_
      have f481 : Arv Z h467 b405 k405 .char (1 : Int32) [(.int (y16 &&& (255 : Int32)))] (.int (0 : Int32)) := (Arv.ext (Arv.keep (Arv.keep (Arv.ext (Arv.keep (Arv.ext (Arv.ext f411 E414) E426) K434q (ninS ne_b405_b426 nin0)) E443) K453q (ninS ne_b405_b443 nin0)) K464q nin0) E467)
      have f482 : Exa Z h467 b390 "[C" := (Exa.ext E467 f468)
      have f483 : Exa Z h467 b397 "[C" := (Exa.ext E467 f469)
      have f484 : Exa Z h467 b405 "[C" := (Exa.ext E467 f470)
      have f485 : Exa Z h467 b414 "com/example/mailroom/mailroom/core/Envelope" := (Exa.ext E467 f471)
      have f486 : Exa Z h467 b426 "java/lang/String" := (Exa.ext E467 f472)
      have f487 : Exa Z h467 da_434 "[B" := (Exa.ext E467 f473)
      have f488 : Exa Z h467 b443 "java/lang/String" := (Exa.ext E467 f474)
      have f489 : Exa Z h467 da_453 "[B" := (Exa.ext E467 f475)
      obtain ⟨T480, v480, L480, X480, q480, st480⟩ := callNew X467 hx hZ (y := (⟨"java/lang/String", "<init>", "([C)V"⟩ : MethodName)) rfl hown (hw _ (List.mem_of_getElem? (i := 10) rfl)) (hw _ (List.mem_of_getElem? (i := 11) rfl)) (hw _ (List.mem_of_getElem? (i := 9) rfl)) (hw _ (List.mem_of_getElem? (i := 12) rfl)) (by decide) (rm_str_1 hw G b467 b405 k405 ((y16 &&& (255 : Int32))) h467 O477 (own_le255 _) A467 f479 f478 g_b467 f481 (Ne.symm ne_b405_b467)) e467 (W := 7) (by decide) (by decide) (by decide) (by decide) (g := (mkF m 111 #[.val (.int p0), .val (.int p1), .val (.int p2), .val (.int p3), .val (.ref s_UNORDERED), .val (.int (0 : Int32)), .val (.ref b390), .val (.ref b397), .val (.ref b405), .unset, .unset] [(.ref b405), (.ref b467), (.ref b467), (.ref r_464), (.int p2), (.ref b443), (.ref b426), (.ref b414), (.ref b414)])) rfl (by rw [hml]; rfl) (a := b467) (argsL := [(.ref b405)]) (rest := [(.ref b467), (.ref r_464), (.int p2), (.ref b443), (.ref b426), (.ref b414), (.ref b414)]) (lenOf pd___C_V rfl) rfl rfl (by show 2 * 0 + _ ≤ _; exact Nat.le_of_eq rfl) (hb hby at_111)
      obtain ⟨da_480, kd_480, rfl, N480q, K480q, p480_0, p480_1, p480_2, p480_3, p480_4⟩ := q480
      have N480 := Fr.app N464 N480q
      have sf491 : Safe Z own_EL s.vm h467 b467 := (Safe.ext E467 C465.1 (Safe.new (Nat.le_of_eq q467.symm)))
      have O492 := Old0.keep O477 K480q (allS g_b467 all0)
      have K492 := Keep.trans K477 K480q (allS (Or.inr z_b467) all0)
      have C490 := CHr.trans C476 (CHr.keep K480q (sfS sf491 sf0) C476.1)
      have hk := Nat.le_trans hk K480q.1
      have z_da_480 : h0.size ≤ da_480 := Nat.le_trans K477.1 p480_0
      have g_da_480 : Z.heap.size ≤ da_480 := Nat.le_trans O477.1 p480_0
      have ne_b390_da_480 : b390 ≠ da_480 := Nat.ne_of_lt (Nat.lt_of_lt_of_le f482.lt p480_0)
      have ne_b397_da_480 : b397 ≠ da_480 := Nat.ne_of_lt (Nat.lt_of_lt_of_le f483.lt p480_0)
      have ne_b405_da_480 : b405 ≠ da_480 := Nat.ne_of_lt (Nat.lt_of_lt_of_le f484.lt p480_0)
      have ne_b414_da_480 : b414 ≠ da_480 := Nat.ne_of_lt (Nat.lt_of_lt_of_le f485.lt p480_0)
      have ne_b426_da_480 : b426 ≠ da_480 := Nat.ne_of_lt (Nat.lt_of_lt_of_le f486.lt p480_0)
      have ne_da_434_da_480 : da_434 ≠ da_480 := Nat.ne_of_lt (Nat.lt_of_lt_of_le f487.lt p480_0)
      have ne_b443_da_480 : b443 ≠ da_480 := Nat.ne_of_lt (Nat.lt_of_lt_of_le f488.lt p480_0)
      have ne_da_453_da_480 : da_453 ≠ da_480 := Nat.ne_of_lt (Nat.lt_of_lt_of_le f489.lt p480_0)
      have ne_b467_da_480 : b467 ≠ da_480 := Nat.ne_of_lt (Nat.lt_of_lt_of_le A467.lt p480_0)
      refine GoS.of (T' := T480) (f' := (mkF m 114 #[.val (.int p0), .val (.int p1), .val (.int p2), .val (.int p3), .val (.ref s_UNORDERED), .val (.int (0 : Int32)), .val (.ref b390), .val (.ref b397), .val (.ref b405), .unset, .unset] [(.ref b467), (.ref r_464), (.int p2), (.ref b443), (.ref b426), (.ref b414), (.ref b414)])) (fun _ k => st480 _ k) ?_
      refine GoS.of (T' := T480) (f' := (mkF m 116 #[.val (.int p0), .val (.int p1), .val (.int p2), .val (.int p3), .val (.ref s_UNORDERED), .val (.int (0 : Int32)), .val (.ref b390), .val (.ref b397), .val (.ref b405), .unset, .unset] [(.int (0 : Int32)), (.ref b467), (.ref r_464), (.int p2), (.ref b443), (.ref b426), (.ref b414), (.ref b414)])) (fun _ k => XS.iload X480.here hx rfl (hb hby at_114) rfl k) ?_
      have f494 : Exa Z T480.heap b414 "com/example/mailroom/mailroom/core/Envelope" := (Exa.keep f485 K480q)
      have f495 : Fld Z T480.heap b414 "com/example/mailroom/mailroom/core/Envelope" "sender" "Ljava/lang/String;" .null := (Fld.keep (Fld.ext E467 (Fld.keep (Fld.keep (Fld.ext E443 (Fld.keep (Fld.ext E426 f420) K434q (ninS ne_b414_b426 nin0))) K453q (ninS ne_b414_b443 nin0)) K464q nin0)) K480q (ninS ne_b414_b467 nin0))
      have f496 : Fld Z T480.heap b414 "com/example/mailroom/mailroom/core/Envelope" "receiver" "Ljava/lang/String;" .null := (Fld.keep (Fld.ext E467 (Fld.keep (Fld.keep (Fld.ext E443 (Fld.keep (Fld.ext E426 f421) K434q (ninS ne_b414_b426 nin0))) K453q (ninS ne_b414_b443 nin0)) K464q nin0)) K480q (ninS ne_b414_b467 nin0))
      have f497 : Fld Z T480.heap b414 "com/example/mailroom/mailroom/core/Envelope" "number" "I" (.int (0 : Int32)) := (Fld.keep (Fld.ext E467 (Fld.keep (Fld.keep (Fld.ext E443 (Fld.keep (Fld.ext E426 f422) K434q (ninS ne_b414_b426 nin0))) K453q (ninS ne_b414_b443 nin0)) K464q nin0)) K480q (ninS ne_b414_b467 nin0))
      have f498 : Fld Z T480.heap b414 "com/example/mailroom/mailroom/core/Envelope" "message" "Ljava/lang/Object;" .null := (Fld.keep (Fld.ext E467 (Fld.keep (Fld.keep (Fld.ext E443 (Fld.keep (Fld.ext E426 f423) K434q (ninS ne_b414_b426 nin0))) K453q (ninS ne_b414_b443 nin0)) K464q nin0)) K480q (ninS ne_b414_b467 nin0))
      have f499 : Fld Z T480.heap b414 "com/example/mailroom/mailroom/core/Envelope" "replyTo" "Ljava/lang/String;" .null := (Fld.keep (Fld.ext E467 (Fld.keep (Fld.keep (Fld.ext E443 (Fld.keep (Fld.ext E426 f424) K434q (ninS ne_b414_b426 nin0))) K453q (ninS ne_b414_b443 nin0)) K464q nin0)) K480q (ninS ne_b414_b467 nin0))
      have f500 : Fld Z T480.heap b414 "com/example/mailroom/mailroom/core/Envelope" "scheduled" "Z" (.int (0 : Int32)) := (Fld.keep (Fld.ext E467 (Fld.keep (Fld.keep (Fld.ext E443 (Fld.keep (Fld.ext E426 f425) K434q (ninS ne_b414_b426 nin0))) K453q (ninS ne_b414_b443 nin0)) K464q nin0)) K480q (ninS ne_b414_b467 nin0))
      obtain ⟨T493, v493, L493, X493, q493, hS, hg493, hZ, hown, Cq493, st493⟩ := callNewS X480 hx hZ (y := (⟨"com/example/mailroom/mailroom/core/Envelope", "<init>", "(Ljava/lang/String;Ljava/lang/String;ILjava/lang/Object;Ljava/lang/String;Z)V"⟩ : MethodName)) rfl hS hk hEL C490.1 hown (hw _ (List.mem_of_getElem? (i := 43) rfl)) (hw _ (List.mem_of_getElem? (i := 44) rfl)) (hw _ (List.mem_of_getElem? (i := 6) rfl)) (hw _ (List.mem_of_getElem? (i := 45) rfl)) (by decide) (rm_env0 hw G b414 b426 b443 p2 r_464 b467  T480.heap O492 f494 f495 f496 f497 f498 f499 f500 g_b414) rfl (W := 1) (by decide) (by decide) (by decide) (by decide) (g := (mkF m 116 #[.val (.int p0), .val (.int p1), .val (.int p2), .val (.int p3), .val (.ref s_UNORDERED), .val (.int (0 : Int32)), .val (.ref b390), .val (.ref b397), .val (.ref b405), .unset, .unset] [(.int (0 : Int32)), (.ref b467), (.ref r_464), (.int p2), (.ref b443), (.ref b426), (.ref b414), (.ref b414)])) rfl (by rw [hml]; rfl) (a := b414) (argsL := [(.ref b426), (.ref b443), (.int p2), (.ref r_464), (.ref b467), (.int (0 : Int32))]) (rest := [(.ref b414)]) (lenOf pd__Ljava_lang_String_Ljava_lang_String_ILjava_lang_Object_Ljava_lang_String_Z_V rfl) rfl rfl (by show 2 * 0 + _ ≤ _; exact Nat.le_of_eq rfl) (hb hby at_116)
      obtain ⟨rfl, N493q, K493q, p493_0⟩ := q493
      have N493 := Fr.app N480 N493q
      have O501 := Old0.keep O492 K493q (allS g_b414 all0)
      have K501 := Keep.trans K492 K493q (allS (Or.inr z_b414) all0)
      have C493 := CHr.trans C490 Cq493
      have hk := Nat.le_refl T493.heap.size
      refine GoS.of (T' := T493) (f' := (mkF m 119 #[.val (.int p0), .val (.int p1), .val (.int p2), .val (.int p3), .val (.ref s_UNORDERED), .val (.int (0 : Int32)), .val (.ref b390), .val (.ref b397), .val (.ref b405), .unset, .unset] [(.ref b414)])) (fun _ k => st493 _ k) ?_
      refine GoS.of (T' := T493) (f' := (mkF m 121 #[.val (.int p0), .val (.int p1), .val (.int p2), .val (.int p3), .val (.ref s_UNORDERED), .val (.int (0 : Int32)), .val (.ref b390), .val (.ref b397), .val (.ref b405), .val (.ref b414), .unset] [])) (fun _ k => XS.astore X493.here hx rfl (hb hby at_119) rfl rfl (l' := #[.val (.int p0), .val (.int p1), .val (.int p2), .val (.int p3), .val (.ref s_UNORDERED), .val (.int (0 : Int32)), .val (.ref b390), .val (.ref b397), .val (.ref b405), .val (.ref b414), .unset]) rfl k) ?_
      refine GoS.of (T' := T493) (f' := (mkF m 123 #[.val (.int p0), .val (.int p1), .val (.int p2), .val (.int p3), .val (.ref s_UNORDERED), .val (.int (0 : Int32)), .val (.ref b390), .val (.ref b397), .val (.ref b405), .val (.ref b414), .unset] [(.ref s_UNORDERED)])) (fun _ k => XS.aload X493.here hx rfl (hb hby at_121) rfl rfl k) ?_
      obtain ⟨T502, X502, e502, st502⟩ := getS2 X493 hx hZ hown (host := "") (Or.inl (hw _ (List.mem_of_getElem? (i := 0) rfl))) Via.refl rfl (Sta.ext O501 S_FIFO) (g := (mkF m 123 #[.val (.int p0), .val (.int p1), .val (.int p2), .val (.int p3), .val (.ref s_UNORDERED), .val (.int (0 : Int32)), .val (.ref b390), .val (.ref b397), .val (.ref b405), .val (.ref b414), .unset] [(.ref s_UNORDERED)])) rfl (hb hby at_123)
      refine GoS.of (T' := T502) (f' := (mkF m 126 #[.val (.int p0), .val (.int p1), .val (.int p2), .val (.int p3), .val (.ref s_UNORDERED), .val (.int (0 : Int32)), .val (.ref b390), .val (.ref b397), .val (.ref b405), .val (.ref b414), .unset] [(.ref s_FIFO), (.ref s_UNORDERED)])) (fun _ k => st502 _ k) ?_
      have hc503 : ¬ (s_UNORDERED = s_FIFO) := ne_UF
      refine GoS.of (T' := T502) (f' := (mkF m 144 #[.val (.int p0), .val (.int p1), .val (.int p2), .val (.int p3), .val (.ref s_UNORDERED), .val (.int (0 : Int32)), .val (.ref b390), .val (.ref b397), .val (.ref b405), .val (.ref b414), .unset] [])) (fun _ k => Jvm.RoadKit.acmp (g := (mkF m 126 #[.val (.int p0), .val (.int p1), .val (.int p2), .val (.int p3), .val (.ref s_UNORDERED), .val (.int (0 : Int32)), .val (.ref b390), .val (.ref b397), .val (.ref b405), .val (.ref b414), .unset] [(.ref s_FIFO), (.ref s_UNORDERED)])) X502 hx rfl rfl rfl (pc0 := 126) (pc' := 144) (same := false) rfl (hb hby at_126) rfl (decide_eq_false fun q => hc503 (Value.ref.inj q)) (by decide) (by decide) k) ?_
      refine GoS.of (T' := T502) (f' := (mkF m 145 #[.val (.int p0), .val (.int p1), .val (.int p2), .val (.int p3), .val (.ref s_UNORDERED), .val (.int (0 : Int32)), .val (.ref b390), .val (.ref b397), .val (.ref b405), .val (.ref b414), .unset] [(.int (0 : Int32))])) (fun _ k => XS.iconst X502.here hx rfl (hb hby at_144) k) ?_
      refine GoS.of (T' := T502) (f' := (mkF m 147 #[.val (.int p0), .val (.int p1), .val (.int p2), .val (.int p3), .val (.ref s_UNORDERED), .val (.int (0 : Int32)), .val (.ref b390), .val (.ref b397), .val (.ref b405), .val (.ref b414), .val (.int (0 : Int32))] [])) (fun _ k => XS.istore X502.here hx rfl (hb hby at_145) rfl (l' := #[.val (.int p0), .val (.int p1), .val (.int p2), .val (.int p3), .val (.ref s_UNORDERED), .val (.int (0 : Int32)), .val (.ref b390), .val (.ref b397), .val (.ref b405), .val (.ref b414), .val (.int (0 : Int32))]) rfl k) ?_
      refine GoS.of (T' := T502) (f' := (mkF m 149 #[.val (.int p0), .val (.int p1), .val (.int p2), .val (.int p3), .val (.ref s_UNORDERED), .val (.int (0 : Int32)), .val (.ref b390), .val (.ref b397), .val (.ref b405), .val (.ref b414), .val (.int (0 : Int32))] [(.ref s_UNORDERED)])) (fun _ k => XS.aload X502.here hx rfl (hb hby at_147) rfl rfl k) ?_
      refine GoS.of (T' := T502) (f' := (mkF m 151 #[.val (.int p0), .val (.int p1), .val (.int p2), .val (.int p3), .val (.ref s_UNORDERED), .val (.int (0 : Int32)), .val (.ref b390), .val (.ref b397), .val (.ref b405), .val (.ref b414), .val (.int (0 : Int32))] [(.ref b414), (.ref s_UNORDERED)])) (fun _ k => XS.aload X502.here hx rfl (hb hby at_149) rfl rfl k) ?_
      have f505 : Exa Z T493.heap b414 "com/example/mailroom/mailroom/core/Envelope" := (Exa.keep f494 K493q)
      obtain ⟨T504, v504, L504, X504, q504, st504⟩ := callVi X502 hx hZ (y := (⟨"com/example/mailroom/mailroom/core/Delivery", "holdsBack", "(Lcom/example/mailroom/mailroom/core/Envelope;)Z"⟩ : MethodName)) (z := (⟨"com/example/mailroom/mailroom/core/Delivery", "holdsBack", "(Lcom/example/mailroom/mailroom/core/Envelope;)Z"⟩ : MethodName)) hown (hw _ (List.mem_of_getElem? (i := 74) rfl)) (hw _ (List.mem_of_getElem? (i := 75) rfl)) (notFace_of_selects (args := #[]) (mvT hZ (hw _ (List.mem_of_getElem? (i := 77) rfl)))) (hw _ (List.mem_of_getElem? (i := 77) rfl)) (hw _ (List.mem_of_getElem? (i := 76) rfl)) (hw _ (List.mem_of_getElem? (i := 78) rfl)) (hw _ (List.mem_of_getElem? (i := 1) rfl)) (by decide) (rm_hold_UNORDERED0 hw G b414  T493.heap O501 f505 p493_0) e502 (W := 0) (by decide) (by decide) (by decide) (by decide) (Exa.ext O501 E_s_UNORDERED) (g := (mkF m 151 #[.val (.int p0), .val (.int p1), .val (.int p2), .val (.int p3), .val (.ref s_UNORDERED), .val (.int (0 : Int32)), .val (.ref b390), .val (.ref b397), .val (.ref b405), .val (.ref b414), .val (.int (0 : Int32))] [(.ref b414), (.ref s_UNORDERED)])) rfl (by rw [hml]; rfl) (argsL := [(.ref b414)]) (rest := []) (lenOf pd__Lcom_example_mailroom_mailroom_core_Envelope__Z rfl) rfl rfl (by show 2 * 0 + _ ≤ _; exact Nat.le_of_eq rfl) (hb hby at_151)
      obtain ⟨rfl, e504, rfl⟩ := q504
      have N504 := Fr.app N493 (Fr.nil _)
      refine GoS.of (T' := T504) (f' := (mkF m 154 #[.val (.int p0), .val (.int p1), .val (.int p2), .val (.int p3), .val (.ref s_UNORDERED), .val (.int (0 : Int32)), .val (.ref b390), .val (.ref b397), .val (.ref b405), .val (.ref b414), .val (.int (0 : Int32))] [(.int (0 : Int32))])) (fun _ k => st504 _ k) ?_
      refine GoS.of (T' := T504) (f' := (mkF m 156 #[.val (.int p0), .val (.int p1), .val (.int p2), .val (.int p3), .val (.ref s_UNORDERED), .val (.int (0 : Int32)), .val (.ref b390), .val (.ref b397), .val (.ref b405), .val (.ref b414), .val (.int (0 : Int32))] [(.int (0 : Int32)), (.int (0 : Int32))])) (fun _ k => XS.iload X504.here hx rfl (hb hby at_154) rfl k) ?_
      refine GoS.of (T' := T504) (f' := (mkF m 159 #[.val (.int p0), .val (.int p1), .val (.int p2), .val (.int p3), .val (.ref s_UNORDERED), .val (.int (0 : Int32)), .val (.ref b390), .val (.ref b397), .val (.ref b405), .val (.ref b414), .val (.int (0 : Int32))] [])) (fun _ k => XS.icmpNo X504.here hx rfl (hb hby at_156) rfl (teq (by decide : (0 : Int32) = (0 : Int32))).2 k) ?_
      refine GoS.of (T' := T504) (f' := (mkF m 160 #[.val (.int p0), .val (.int p1), .val (.int p2), .val (.int p3), .val (.ref s_UNORDERED), .val (.int (0 : Int32)), .val (.ref b390), .val (.ref b397), .val (.ref b405), .val (.ref b414), .val (.int (0 : Int32))] [(.int (1 : Int32))])) (fun _ k => XS.iconst X504.here hx rfl (hb hby at_159) k) ?_
      refine GoS.of (T' := T504) (f' := (mkF m 164 #[.val (.int p0), .val (.int p1), .val (.int p2), .val (.int p3), .val (.ref s_UNORDERED), .val (.int (0 : Int32)), .val (.ref b390), .val (.ref b397), .val (.ref b405), .val (.ref b414), .val (.int (0 : Int32))] [(.int (1 : Int32))])) (fun _ k => XS.goto X504.here hx rfl (pc0 := 160) (pc' := 164) rfl (hb hby at_160) (by decide) (by decide) k) ?_
      exact GoS.retB X504 hx hlk hS hk hZ hEL C493 e504 hret (by simp) (hb hby at_164) (by decide) (by decide) (z' := (1 : Int32)) rfl (by rw [e504]; exact ⟨rfl, N504, K501⟩)
    · skip
      refine GoS.of (T' := T388) (f' := (mkF m 23 #[.val (.int p0), .val (.int p1), .val (.int p2), .val (.int p3), .val (.ref s_UNORDERED), .unset, .unset, .unset, .unset, .unset, .unset] [])) (fun _ k => XS.ifNo X388.here hx rfl (hb hby at_20) rfl ((if0 _ _).trans (feq hc389).1) k) ?_
      refine GoS.of (T' := T388) (f' := (mkF m 24 #[.val (.int p0), .val (.int p1), .val (.int p2), .val (.int p3), .val (.ref s_UNORDERED), .unset, .unset, .unset, .unset, .unset, .unset] [(.int (1 : Int32))])) (fun _ k => XS.iconst X388.here hx rfl (hb hby at_23) k) ?_
      refine GoS.of (T' := T388) (f' := (mkF m 28 #[.val (.int p0), .val (.int p1), .val (.int p2), .val (.int p3), .val (.ref s_UNORDERED), .unset, .unset, .unset, .unset, .unset, .unset] [(.int (1 : Int32))])) (fun _ k => XS.goto X388.here hx rfl (pc0 := 24) (pc' := 28) rfl (hb hby at_24) (by decide) (by decide) k) ?_
      refine GoS.of (T' := T388) (f' := (mkF m 30 #[.val (.int p0), .val (.int p1), .val (.int p2), .val (.int p3), .val (.ref s_UNORDERED), .val (.int (1 : Int32)), .unset, .unset, .unset, .unset, .unset] [])) (fun _ k => XS.istore X388.here hx rfl (hb hby at_28) rfl (l' := #[.val (.int p0), .val (.int p1), .val (.int p2), .val (.int p3), .val (.ref s_UNORDERED), .val (.int (1 : Int32)), .unset, .unset, .unset, .unset, .unset]) rfl k) ?_
      refine GoS.of (T' := T388) (f' := (mkF m 31 #[.val (.int p0), .val (.int p1), .val (.int p2), .val (.int p3), .val (.ref s_UNORDERED), .val (.int (1 : Int32)), .unset, .unset, .unset, .unset, .unset] [(.int (1 : Int32))])) (fun _ k => XS.iconst X388.here hx rfl (hb hby at_30) k) ?_
      obtain ⟨T507, h507, k507, b507, q507, X507, e507, E507, V507, A507, st507⟩ := newAr X388 hx hZ (hw _ (List.mem_of_getElem? (i := 3) rfl)) e388 (g := (mkF m 31 #[.val (.int p0), .val (.int p1), .val (.int p2), .val (.int p3), .val (.ref s_UNORDERED), .val (.int (1 : Int32)), .unset, .unset, .unset, .unset, .unset] [(.int (1 : Int32))])) rfl (hb hby at_31) rfl (by decide) (cap := 1) (by decide) (by decide) (by decide) (by decide) (ad := "[C") (by decide)
      have O509 := Old0.ext O0 E507
      have K509 := Keep.ext K0 E507
      have C508 := CHr.trans C0 (CHr.ext E507 C0.1)
      have hk := Nat.le_trans hk E507.1
      have g_b507 : Z.heap.size ≤ b507 := q507 ▸ O0.1
      have z_b507 : h0.size ≤ b507 := q507 ▸ K0.1
      have f510 : Arv Z h507 b507 k507 .char (1 : Int32) [(.int (0 : Int32))] (.int (0 : Int32)) := Arv.pad V507 (pad_rep [] (.int (0 : Int32)) 1)
      refine GoS.of (T' := T507) (f' := (mkF m 33 #[.val (.int p0), .val (.int p1), .val (.int p2), .val (.int p3), .val (.ref s_UNORDERED), .val (.int (1 : Int32)), .unset, .unset, .unset, .unset, .unset] [(.ref b507)])) (fun _ k => st507 _ k) ?_
      refine GoS.of (T' := T507) (f' := (mkF m 34 #[.val (.int p0), .val (.int p1), .val (.int p2), .val (.int p3), .val (.ref s_UNORDERED), .val (.int (1 : Int32)), .unset, .unset, .unset, .unset, .unset] [(.ref b507), (.ref b507)])) (fun _ k => XS.dup X507.here hx rfl (hb hby at_33) rfl rfl k) ?_
      refine GoS.of (T' := T507) (f' := (mkF m 35 #[.val (.int p0), .val (.int p1), .val (.int p2), .val (.int p3), .val (.ref s_UNORDERED), .val (.int (1 : Int32)), .unset, .unset, .unset, .unset, .unset] [(.int (0 : Int32)), (.ref b507), (.ref b507)])) (fun _ k => XS.iconst X507.here hx rfl (hb hby at_34) k) ?_
      refine GoS.of (T' := T507) (f' := (mkF m 36 #[.val (.int p0), .val (.int p1), .val (.int p2), .val (.int p3), .val (.ref s_UNORDERED), .val (.int (1 : Int32)), .unset, .unset, .unset, .unset, .unset] [(.int p3), (.int (0 : Int32)), (.ref b507), (.ref b507)])) (fun _ k => XS.iloadN X507.here hx rfl (hb hby at_35) rfl k) ?_
      refine GoS.of (T' := T507) (f' := (mkF m 39 #[.val (.int p0), .val (.int p1), .val (.int p2), .val (.int p3), .val (.ref s_UNORDERED), .val (.int (1 : Int32)), .unset, .unset, .unset, .unset, .unset] [(.int (255 : Int32)), (.int p3), (.int (0 : Int32)), (.ref b507), (.ref b507)])) (fun _ k => XS.sipush X507.here hx rfl (hb hby at_36) k) ?_
      refine GoS.of (T' := T507) (f' := (mkF m 40 #[.val (.int p0), .val (.int p1), .val (.int p2), .val (.int p3), .val (.ref s_UNORDERED), .val (.int (1 : Int32)), .unset, .unset, .unset, .unset, .unset] [(.int (p3 &&& (255 : Int32))), (.int (0 : Int32)), (.ref b507), (.ref b507)])) (fun _ k => XS.iand X507.here hx rfl (hb hby at_39) rfl k) ?_
      refine GoS.of (T' := T507) (f' := (mkF m 41 #[.val (.int p0), .val (.int p1), .val (.int p2), .val (.int p3), .val (.ref s_UNORDERED), .val (.int (1 : Int32)), .unset, .unset, .unset, .unset, .unset] [(.int ((p3 &&& (255 : Int32)).toUInt32.toUInt16.toUInt32.toInt32)), (.int (0 : Int32)), (.ref b507), (.ref b507)])) (fun _ k => XS.i2c X507.here hx rfl (hb hby at_40) rfl k) ?_
      obtain ⟨cl511, Ar511, qk511, S511, Ng511, H511, G511⟩ := id f510
      obtain ⟨T511, h511, X511, e511, W511, st511⟩ := stC X507 hx hZ e507 Ar511 (j := (0 : Int32)) (inb_of S511 ⟨by decide, by decide⟩) (g := (mkF m 41 #[.val (.int p0), .val (.int p1), .val (.int p2), .val (.int p3), .val (.ref s_UNORDERED), .val (.int (1 : Int32)), .unset, .unset, .unset, .unset, .unset] [(.int ((p3 &&& (255 : Int32)).toUInt32.toUInt16.toUInt32.toInt32)), (.int (0 : Int32)), (.ref b507), (.ref b507)])) rfl rfl (hb hby at_41)
      have W511 : Wr h507 h511 b507 ((0 : Int32)).toNatClampNeg (.int (p3 &&& (255 : Int32))) := Eq.mp (congrArg (fun z => Wr h507 h511 b507 ((0 : Int32)).toNatClampNeg (Value.int z)) (own_c255 p3)) W511
      have O513 := Old0.wr O509 W511 g_b507
      have K513 := Keep.wr K509 W511 (Or.inr z_b507)
      have C512 := CHr.trans C508 (CHr.wr W511 (Safe.exa hZ.alike A507 (by decide) (by decide)) C508.1)
      have hk := Nat.le_trans hk (Keep.of_wr W511).1
      have f511 : Arv Z h511 b507 k507 .char (1 : Int32) [(.int (p3 &&& (255 : Int32)))] (.int (0 : Int32)) := Arv.set Ar511 qk511 S511 Ng511 H511 G511 (v := (.int (p3 &&& (255 : Int32)))) (own_f255 p3) W511 0 rfl (Nat.le_of_ble_eq_true rfl)
      have N511 := Fr.snoc X511 N0 g_b507
      refine GoS.of (T' := T511) (f' := (mkF m 42 #[.val (.int p0), .val (.int p1), .val (.int p2), .val (.int p3), .val (.ref s_UNORDERED), .val (.int (1 : Int32)), .unset, .unset, .unset, .unset, .unset] [(.ref b507)])) (fun _ k => st511 _ k) ?_
      refine GoS.of (T' := T511) (f' := (mkF m 44 #[.val (.int p0), .val (.int p1), .val (.int p2), .val (.int p3), .val (.ref s_UNORDERED), .val (.int (1 : Int32)), .val (.ref b507), .unset, .unset, .unset, .unset] [])) (fun _ k => XS.astore X511.here hx rfl (hb hby at_42) rfl rfl (l' := #[.val (.int p0), .val (.int p1), .val (.int p2), .val (.int p3), .val (.ref s_UNORDERED), .val (.int (1 : Int32)), .val (.ref b507), .unset, .unset, .unset, .unset]) rfl k) ?_
      refine GoS.of (T' := T511) (f' := (mkF m 45 #[.val (.int p0), .val (.int p1), .val (.int p2), .val (.int p3), .val (.ref s_UNORDERED), .val (.int (1 : Int32)), .val (.ref b507), .unset, .unset, .unset, .unset] [(.int (1 : Int32))])) (fun _ k => XS.iconst X511.here hx rfl (hb hby at_44) k) ?_
      have f515 : Exa Z h511 b507 "[C" := (Exa.wr W511 A507)
      obtain ⟨T514, h514, k514, b514, q514, X514, e514, E514, V514, A514, st514⟩ := newAr X511 hx hZ (hw _ (List.mem_of_getElem? (i := 3) rfl)) e511 (g := (mkF m 45 #[.val (.int p0), .val (.int p1), .val (.int p2), .val (.int p3), .val (.ref s_UNORDERED), .val (.int (1 : Int32)), .val (.ref b507), .unset, .unset, .unset, .unset] [(.int (1 : Int32))])) rfl (hb hby at_45) rfl (by decide) (cap := 1) (by decide) (by decide) (by decide) (by decide) (ad := "[C") (by decide)
      have O517 := Old0.ext O513 E514
      have K517 := Keep.ext K513 E514
      have C516 := CHr.trans C512 (CHr.ext E514 C512.1)
      have hk := Nat.le_trans hk E514.1
      have g_b514 : Z.heap.size ≤ b514 := q514 ▸ O513.1
      have z_b514 : h0.size ≤ b514 := q514 ▸ K513.1
      have ne_b507_b514 : b507 ≠ b514 := q514 ▸ Nat.ne_of_lt f515.lt
      have f518 : Arv Z h514 b514 k514 .char (1 : Int32) [(.int (0 : Int32))] (.int (0 : Int32)) := Arv.pad V514 (pad_rep [] (.int (0 : Int32)) 1)
      refine GoS.of (T' := T514) (f' := (mkF m 47 #[.val (.int p0), .val (.int p1), .val (.int p2), .val (.int p3), .val (.ref s_UNORDERED), .val (.int (1 : Int32)), .val (.ref b507), .unset, .unset, .unset, .unset] [(.ref b514)])) (fun _ k => st514 _ k) ?_
      refine GoS.of (T' := T514) (f' := (mkF m 48 #[.val (.int p0), .val (.int p1), .val (.int p2), .val (.int p3), .val (.ref s_UNORDERED), .val (.int (1 : Int32)), .val (.ref b507), .unset, .unset, .unset, .unset] [(.ref b514), (.ref b514)])) (fun _ k => XS.dup X514.here hx rfl (hb hby at_47) rfl rfl k) ?_
      refine GoS.of (T' := T514) (f' := (mkF m 49 #[.val (.int p0), .val (.int p1), .val (.int p2), .val (.int p3), .val (.ref s_UNORDERED), .val (.int (1 : Int32)), .val (.ref b507), .unset, .unset, .unset, .unset] [(.int (0 : Int32)), (.ref b514), (.ref b514)])) (fun _ k => XS.iconst X514.here hx rfl (hb hby at_48) k) ?_
      refine GoS.of (T' := T514) (f' := (mkF m 50 #[.val (.int p0), .val (.int p1), .val (.int p2), .val (.int p3), .val (.ref s_UNORDERED), .val (.int (1 : Int32)), .val (.ref b507), .unset, .unset, .unset, .unset] [(.int p3), (.int (0 : Int32)), (.ref b514), (.ref b514)])) (fun _ k => XS.iloadN X514.here hx rfl (hb hby at_49) rfl k) ?_
      refine GoS.of (T' := T514) (f' := (mkF m 52 #[.val (.int p0), .val (.int p1), .val (.int p2), .val (.int p3), .val (.ref s_UNORDERED), .val (.int (1 : Int32)), .val (.ref b507), .unset, .unset, .unset, .unset] [(.int (8 : Int32)), (.int p3), (.int (0 : Int32)), (.ref b514), (.ref b514)])) (fun _ k => XS.bipush X514.here hx rfl (hb hby at_50) k) ?_
      refine GoS.of (T' := T514) (f' := (mkF m 53 #[.val (.int p0), .val (.int p1), .val (.int p2), .val (.int p3), .val (.ref s_UNORDERED), .val (.int (1 : Int32)), .val (.ref b507), .unset, .unset, .unset, .unset] [(.int ((p3.toUInt32 >>> ((8 : Int32) &&& 31).toUInt32).toInt32)), (.int (0 : Int32)), (.ref b514), (.ref b514)])) (fun _ k => XS.iushr X514.here hx rfl (hb hby at_52) rfl k) ?_
      generalize hy8 : (((p3.toUInt32 >>> ((8 : Int32) &&& 31).toUInt32).toInt32) : Int32) = y8
      refine GoS.of (T' := T514) (f' := (mkF m 56 #[.val (.int p0), .val (.int p1), .val (.int p2), .val (.int p3), .val (.ref s_UNORDERED), .val (.int (1 : Int32)), .val (.ref b507), .unset, .unset, .unset, .unset] [(.int (255 : Int32)), (.int y8), (.int (0 : Int32)), (.ref b514), (.ref b514)])) (fun _ k => XS.sipush X514.here hx rfl (hb hby at_53) k) ?_
      refine GoS.of (T' := T514) (f' := (mkF m 57 #[.val (.int p0), .val (.int p1), .val (.int p2), .val (.int p3), .val (.ref s_UNORDERED), .val (.int (1 : Int32)), .val (.ref b507), .unset, .unset, .unset, .unset] [(.int (y8 &&& (255 : Int32))), (.int (0 : Int32)), (.ref b514), (.ref b514)])) (fun _ k => XS.iand X514.here hx rfl (hb hby at_56) rfl k) ?_
      refine GoS.of (T' := T514) (f' := (mkF m 58 #[.val (.int p0), .val (.int p1), .val (.int p2), .val (.int p3), .val (.ref s_UNORDERED), .val (.int (1 : Int32)), .val (.ref b507), .unset, .unset, .unset, .unset] [(.int ((y8 &&& (255 : Int32)).toUInt32.toUInt16.toUInt32.toInt32)), (.int (0 : Int32)), (.ref b514), (.ref b514)])) (fun _ k => XS.i2c X514.here hx rfl (hb hby at_57) rfl k) ?_
      obtain ⟨cl519, Ar519, qk519, S519, Ng519, H519, G519⟩ := id f518
      obtain ⟨T519, h519, X519, e519, W519, st519⟩ := stC X514 hx hZ e514 Ar519 (j := (0 : Int32)) (inb_of S519 ⟨by decide, by decide⟩) (g := (mkF m 58 #[.val (.int p0), .val (.int p1), .val (.int p2), .val (.int p3), .val (.ref s_UNORDERED), .val (.int (1 : Int32)), .val (.ref b507), .unset, .unset, .unset, .unset] [(.int ((y8 &&& (255 : Int32)).toUInt32.toUInt16.toUInt32.toInt32)), (.int (0 : Int32)), (.ref b514), (.ref b514)])) rfl rfl (hb hby at_58)
      have W519 : Wr h514 h519 b514 ((0 : Int32)).toNatClampNeg (.int (y8 &&& (255 : Int32))) := Eq.mp (congrArg (fun z => Wr h514 h519 b514 ((0 : Int32)).toNatClampNeg (Value.int z)) (own_c255 y8)) W519
      have O521 := Old0.wr O517 W519 g_b514
      have K521 := Keep.wr K517 W519 (Or.inr z_b514)
      have C520 := CHr.trans C516 (CHr.wr W519 (Safe.exa hZ.alike A514 (by decide) (by decide)) C516.1)
      have hk := Nat.le_trans hk (Keep.of_wr W519).1
      have f519 : Arv Z h519 b514 k514 .char (1 : Int32) [(.int (y8 &&& (255 : Int32)))] (.int (0 : Int32)) := Arv.set Ar519 qk519 S519 Ng519 H519 G519 (v := (.int (y8 &&& (255 : Int32)))) (own_f255 y8) W519 0 rfl (Nat.le_of_ble_eq_true rfl)
      have N519 := Fr.snoc X519 N511 g_b514
      refine GoS.of (T' := T519) (f' := (mkF m 59 #[.val (.int p0), .val (.int p1), .val (.int p2), .val (.int p3), .val (.ref s_UNORDERED), .val (.int (1 : Int32)), .val (.ref b507), .unset, .unset, .unset, .unset] [(.ref b514)])) (fun _ k => st519 _ k) ?_
      refine GoS.of (T' := T519) (f' := (mkF m 61 #[.val (.int p0), .val (.int p1), .val (.int p2), .val (.int p3), .val (.ref s_UNORDERED), .val (.int (1 : Int32)), .val (.ref b507), .val (.ref b514), .unset, .unset, .unset] [])) (fun _ k => XS.astore X519.here hx rfl (hb hby at_59) rfl rfl (l' := #[.val (.int p0), .val (.int p1), .val (.int p2), .val (.int p3), .val (.ref s_UNORDERED), .val (.int (1 : Int32)), .val (.ref b507), .val (.ref b514), .unset, .unset, .unset]) rfl k) ?_
      refine GoS.of (T' := T519) (f' := (mkF m 62 #[.val (.int p0), .val (.int p1), .val (.int p2), .val (.int p3), .val (.ref s_UNORDERED), .val (.int (1 : Int32)), .val (.ref b507), .val (.ref b514), .unset, .unset, .unset] [(.int (1 : Int32))])) (fun _ k => XS.iconst X519.here hx rfl (hb hby at_61) k) ?_
      have f523 : Exa Z h519 b507 "[C" := (Exa.wr W519 (Exa.ext E514 f515))
      have f524 : Exa Z h519 b514 "[C" := (Exa.wr W519 A514)
      obtain ⟨T522, h522, k522, b522, q522, X522, e522, E522, V522, A522, st522⟩ := newAr X519 hx hZ (hw _ (List.mem_of_getElem? (i := 3) rfl)) e519 (g := (mkF m 62 #[.val (.int p0), .val (.int p1), .val (.int p2), .val (.int p3), .val (.ref s_UNORDERED), .val (.int (1 : Int32)), .val (.ref b507), .val (.ref b514), .unset, .unset, .unset] [(.int (1 : Int32))])) rfl (hb hby at_62) rfl (by decide) (cap := 1) (by decide) (by decide) (by decide) (by decide) (ad := "[C") (by decide)
      have O526 := Old0.ext O521 E522
      have K526 := Keep.ext K521 E522
      have C525 := CHr.trans C520 (CHr.ext E522 C520.1)
      have hk := Nat.le_trans hk E522.1
      have g_b522 : Z.heap.size ≤ b522 := q522 ▸ O521.1
      have z_b522 : h0.size ≤ b522 := q522 ▸ K521.1
      have ne_b507_b522 : b507 ≠ b522 := q522 ▸ Nat.ne_of_lt f523.lt
      have ne_b514_b522 : b514 ≠ b522 := q522 ▸ Nat.ne_of_lt f524.lt
      have f527 : Arv Z h522 b522 k522 .char (1 : Int32) [(.int (0 : Int32))] (.int (0 : Int32)) := Arv.pad V522 (pad_rep [] (.int (0 : Int32)) 1)
      refine GoS.of (T' := T522) (f' := (mkF m 64 #[.val (.int p0), .val (.int p1), .val (.int p2), .val (.int p3), .val (.ref s_UNORDERED), .val (.int (1 : Int32)), .val (.ref b507), .val (.ref b514), .unset, .unset, .unset] [(.ref b522)])) (fun _ k => st522 _ k) ?_
      refine GoS.of (T' := T522) (f' := (mkF m 65 #[.val (.int p0), .val (.int p1), .val (.int p2), .val (.int p3), .val (.ref s_UNORDERED), .val (.int (1 : Int32)), .val (.ref b507), .val (.ref b514), .unset, .unset, .unset] [(.ref b522), (.ref b522)])) (fun _ k => XS.dup X522.here hx rfl (hb hby at_64) rfl rfl k) ?_
      refine GoS.of (T' := T522) (f' := (mkF m 66 #[.val (.int p0), .val (.int p1), .val (.int p2), .val (.int p3), .val (.ref s_UNORDERED), .val (.int (1 : Int32)), .val (.ref b507), .val (.ref b514), .unset, .unset, .unset] [(.int (0 : Int32)), (.ref b522), (.ref b522)])) (fun _ k => XS.iconst X522.here hx rfl (hb hby at_65) k) ?_
      refine GoS.of (T' := T522) (f' := (mkF m 67 #[.val (.int p0), .val (.int p1), .val (.int p2), .val (.int p3), .val (.ref s_UNORDERED), .val (.int (1 : Int32)), .val (.ref b507), .val (.ref b514), .unset, .unset, .unset] [(.int p3), (.int (0 : Int32)), (.ref b522), (.ref b522)])) (fun _ k => XS.iloadN X522.here hx rfl (hb hby at_66) rfl k) ?_
      refine GoS.of (T' := T522) (f' := (mkF m 69 #[.val (.int p0), .val (.int p1), .val (.int p2), .val (.int p3), .val (.ref s_UNORDERED), .val (.int (1 : Int32)), .val (.ref b507), .val (.ref b514), .unset, .unset, .unset] [(.int (16 : Int32)), (.int p3), (.int (0 : Int32)), (.ref b522), (.ref b522)])) (fun _ k => XS.bipush X522.here hx rfl (hb hby at_67) k) ?_
      refine GoS.of (T' := T522) (f' := (mkF m 70 #[.val (.int p0), .val (.int p1), .val (.int p2), .val (.int p3), .val (.ref s_UNORDERED), .val (.int (1 : Int32)), .val (.ref b507), .val (.ref b514), .unset, .unset, .unset] [(.int ((p3.toUInt32 >>> ((16 : Int32) &&& 31).toUInt32).toInt32)), (.int (0 : Int32)), (.ref b522), (.ref b522)])) (fun _ k => XS.iushr X522.here hx rfl (hb hby at_69) rfl k) ?_
      generalize hy16 : (((p3.toUInt32 >>> ((16 : Int32) &&& 31).toUInt32).toInt32) : Int32) = y16
      refine GoS.of (T' := T522) (f' := (mkF m 73 #[.val (.int p0), .val (.int p1), .val (.int p2), .val (.int p3), .val (.ref s_UNORDERED), .val (.int (1 : Int32)), .val (.ref b507), .val (.ref b514), .unset, .unset, .unset] [(.int (255 : Int32)), (.int y16), (.int (0 : Int32)), (.ref b522), (.ref b522)])) (fun _ k => XS.sipush X522.here hx rfl (hb hby at_70) k) ?_
      refine GoS.of (T' := T522) (f' := (mkF m 74 #[.val (.int p0), .val (.int p1), .val (.int p2), .val (.int p3), .val (.ref s_UNORDERED), .val (.int (1 : Int32)), .val (.ref b507), .val (.ref b514), .unset, .unset, .unset] [(.int (y16 &&& (255 : Int32))), (.int (0 : Int32)), (.ref b522), (.ref b522)])) (fun _ k => XS.iand X522.here hx rfl (hb hby at_73) rfl k) ?_
      refine GoS.of (T' := T522) (f' := (mkF m 75 #[.val (.int p0), .val (.int p1), .val (.int p2), .val (.int p3), .val (.ref s_UNORDERED), .val (.int (1 : Int32)), .val (.ref b507), .val (.ref b514), .unset, .unset, .unset] [(.int ((y16 &&& (255 : Int32)).toUInt32.toUInt16.toUInt32.toInt32)), (.int (0 : Int32)), (.ref b522), (.ref b522)])) (fun _ k => XS.i2c X522.here hx rfl (hb hby at_74) rfl k) ?_
      obtain ⟨cl528, Ar528, qk528, S528, Ng528, H528, G528⟩ := id f527
      obtain ⟨T528, h528, X528, e528, W528, st528⟩ := stC X522 hx hZ e522 Ar528 (j := (0 : Int32)) (inb_of S528 ⟨by decide, by decide⟩) (g := (mkF m 75 #[.val (.int p0), .val (.int p1), .val (.int p2), .val (.int p3), .val (.ref s_UNORDERED), .val (.int (1 : Int32)), .val (.ref b507), .val (.ref b514), .unset, .unset, .unset] [(.int ((y16 &&& (255 : Int32)).toUInt32.toUInt16.toUInt32.toInt32)), (.int (0 : Int32)), (.ref b522), (.ref b522)])) rfl rfl (hb hby at_75)
      have W528 : Wr h522 h528 b522 ((0 : Int32)).toNatClampNeg (.int (y16 &&& (255 : Int32))) := Eq.mp (congrArg (fun z => Wr h522 h528 b522 ((0 : Int32)).toNatClampNeg (Value.int z)) (own_c255 y16)) W528
      have O530 := Old0.wr O526 W528 g_b522
      have K530 := Keep.wr K526 W528 (Or.inr z_b522)
      have C529 := CHr.trans C525 (CHr.wr W528 (Safe.exa hZ.alike A522 (by decide) (by decide)) C525.1)
      have hk := Nat.le_trans hk (Keep.of_wr W528).1
      have f528 : Arv Z h528 b522 k522 .char (1 : Int32) [(.int (y16 &&& (255 : Int32)))] (.int (0 : Int32)) := Arv.set Ar528 qk528 S528 Ng528 H528 G528 (v := (.int (y16 &&& (255 : Int32)))) (own_f255 y16) W528 0 rfl (Nat.le_of_ble_eq_true rfl)
      have N528 := Fr.snoc X528 N519 g_b522
      refine GoS.of (T' := T528) (f' := (mkF m 76 #[.val (.int p0), .val (.int p1), .val (.int p2), .val (.int p3), .val (.ref s_UNORDERED), .val (.int (1 : Int32)), .val (.ref b507), .val (.ref b514), .unset, .unset, .unset] [(.ref b522)])) (fun _ k => st528 _ k) ?_
      refine GoS.of (T' := T528) (f' := (mkF m 78 #[.val (.int p0), .val (.int p1), .val (.int p2), .val (.int p3), .val (.ref s_UNORDERED), .val (.int (1 : Int32)), .val (.ref b507), .val (.ref b514), .val (.ref b522), .unset, .unset] [])) (fun _ k => XS.astore X528.here hx rfl (hb hby at_76) rfl rfl (l' := #[.val (.int p0), .val (.int p1), .val (.int p2), .val (.int p3), .val (.ref s_UNORDERED), .val (.int (1 : Int32)), .val (.ref b507), .val (.ref b514), .val (.ref b522), .unset, .unset]) rfl k) ?_
      have f532 : Exa Z h528 b507 "[C" := (Exa.wr W528 (Exa.ext E522 f523))
      have f533 : Exa Z h528 b514 "[C" := (Exa.wr W528 (Exa.ext E522 f524))
      have f534 : Exa Z h528 b522 "[C" := (Exa.wr W528 A522)
      obtain ⟨T531, h531, b531, q531, X531, e531, E531, A531, D531, st531⟩ := newOb X528 hx hZ hown (hw _ (List.mem_of_getElem? (i := 4) rfl)) (hw _ (List.mem_of_getElem? (i := 5) rfl)) (hw _ (List.mem_of_getElem? (i := 6) rfl)) e528 (g := (mkF m 78 #[.val (.int p0), .val (.int p1), .val (.int p2), .val (.int p3), .val (.ref s_UNORDERED), .val (.int (1 : Int32)), .val (.ref b507), .val (.ref b514), .val (.ref b522), .unset, .unset] [])) rfl (hb hby at_78) (by decide) (by decide)
      have O536 := Old0.ext O530 E531
      have K536 := Keep.ext K530 E531
      have C535 := CHr.trans C529 (CHr.ext E531 C529.1)
      have hk := Nat.le_trans hk E531.1
      have g_b531 : Z.heap.size ≤ b531 := q531 ▸ O530.1
      have z_b531 : h0.size ≤ b531 := q531 ▸ K530.1
      have ne_b507_b531 : b507 ≠ b531 := q531 ▸ Nat.ne_of_lt f532.lt
      have ne_b514_b531 : b514 ≠ b531 := q531 ▸ Nat.ne_of_lt f533.lt
      have ne_b522_b531 : b522 ≠ b531 := q531 ▸ Nat.ne_of_lt f534.lt
      have f537 : Fld Z h531 b531 "com/example/mailroom/mailroom/core/Envelope" "sender" "Ljava/lang/String;" .null := D531 (Or.inr (hw _ (List.mem_of_getElem? (i := 63) rfl))) (ty := (.object "java/lang/String")) (by decide)
      have f538 : Fld Z h531 b531 "com/example/mailroom/mailroom/core/Envelope" "receiver" "Ljava/lang/String;" .null := D531 (Or.inr (hw _ (List.mem_of_getElem? (i := 65) rfl))) (ty := (.object "java/lang/String")) (by decide)
      have f539 : Fld Z h531 b531 "com/example/mailroom/mailroom/core/Envelope" "number" "I" (.int (0 : Int32)) := D531 (Or.inr (hw _ (List.mem_of_getElem? (i := 67) rfl))) (ty := .int) (by decide)
      have f540 : Fld Z h531 b531 "com/example/mailroom/mailroom/core/Envelope" "message" "Ljava/lang/Object;" .null := D531 (Or.inr (hw _ (List.mem_of_getElem? (i := 69) rfl))) (ty := (.object "java/lang/Object")) (by decide)
      have f541 : Fld Z h531 b531 "com/example/mailroom/mailroom/core/Envelope" "replyTo" "Ljava/lang/String;" .null := D531 (Or.inr (hw _ (List.mem_of_getElem? (i := 71) rfl))) (ty := (.object "java/lang/String")) (by decide)
      have f542 : Fld Z h531 b531 "com/example/mailroom/mailroom/core/Envelope" "scheduled" "Z" (.int (0 : Int32)) := D531 (Or.inr (hw _ (List.mem_of_getElem? (i := 73) rfl))) (ty := .boolean) (by decide)
      refine GoS.of (T' := T531) (f' := (mkF m 81 #[.val (.int p0), .val (.int p1), .val (.int p2), .val (.int p3), .val (.ref s_UNORDERED), .val (.int (1 : Int32)), .val (.ref b507), .val (.ref b514), .val (.ref b522), .unset, .unset] [(.ref b531)])) (fun _ k => st531 _ k) ?_
      refine GoS.of (T' := T531) (f' := (mkF m 82 #[.val (.int p0), .val (.int p1), .val (.int p2), .val (.int p3), .val (.ref s_UNORDERED), .val (.int (1 : Int32)), .val (.ref b507), .val (.ref b514), .val (.ref b522), .unset, .unset] [(.ref b531), (.ref b531)])) (fun _ k => XS.dup X531.here hx rfl (hb hby at_81) rfl rfl k) ?_
      have f544 : Exa Z h531 b507 "[C" := (Exa.ext E531 f532)
      have f545 : Exa Z h531 b514 "[C" := (Exa.ext E531 f533)
      have f546 : Exa Z h531 b522 "[C" := (Exa.ext E531 f534)
      obtain ⟨T543, h543, b543, q543, X543, e543, E543, A543, D543, st543⟩ := newOb X531 hx hZ hown (hw _ (List.mem_of_getElem? (i := 7) rfl)) (hw _ (List.mem_of_getElem? (i := 8) rfl)) (hw _ (List.mem_of_getElem? (i := 9) rfl)) e531 (g := (mkF m 82 #[.val (.int p0), .val (.int p1), .val (.int p2), .val (.int p3), .val (.ref s_UNORDERED), .val (.int (1 : Int32)), .val (.ref b507), .val (.ref b514), .val (.ref b522), .unset, .unset] [(.ref b531), (.ref b531)])) rfl (hb hby at_82) (by decide) (by decide)
      have O548 := Old0.ext O536 E543
      have K548 := Keep.ext K536 E543
      have C547 := CHr.trans C535 (CHr.ext E543 C535.1)
      have hk := Nat.le_trans hk E543.1
      have g_b543 : Z.heap.size ≤ b543 := q543 ▸ O536.1
      have z_b543 : h0.size ≤ b543 := q543 ▸ K536.1
      have ne_b507_b543 : b507 ≠ b543 := q543 ▸ Nat.ne_of_lt f544.lt
      have ne_b514_b543 : b514 ≠ b543 := q543 ▸ Nat.ne_of_lt f545.lt
      have ne_b522_b543 : b522 ≠ b543 := q543 ▸ Nat.ne_of_lt f546.lt
      have ne_b531_b543 : b531 ≠ b543 := q543 ▸ Nat.ne_of_lt A531.lt
      have f549 : Fld Z h543 b543 "java/lang/String" "coder" "B" (.int (0 : Int32)) := D543 (Or.inr (hw _ (List.mem_of_getElem? (i := 33) rfl))) (ty := .byte) (by decide)
      have f550 : Fld Z h543 b543 "java/lang/String" "value" "[B" .null := D543 (Or.inr (hw _ (List.mem_of_getElem? (i := 35) rfl))) (ty := (.array .byte)) (by decide)
      refine GoS.of (T' := T543) (f' := (mkF m 85 #[.val (.int p0), .val (.int p1), .val (.int p2), .val (.int p3), .val (.ref s_UNORDERED), .val (.int (1 : Int32)), .val (.ref b507), .val (.ref b514), .val (.ref b522), .unset, .unset] [(.ref b543), (.ref b531), (.ref b531)])) (fun _ k => st543 _ k) ?_
      refine GoS.of (T' := T543) (f' := (mkF m 86 #[.val (.int p0), .val (.int p1), .val (.int p2), .val (.int p3), .val (.ref s_UNORDERED), .val (.int (1 : Int32)), .val (.ref b507), .val (.ref b514), .val (.ref b522), .unset, .unset] [(.ref b543), (.ref b543), (.ref b531), (.ref b531)])) (fun _ k => XS.dup X543.here hx rfl (hb hby at_85) rfl rfl k) ?_
      refine GoS.of (T' := T543) (f' := (mkF m 88 #[.val (.int p0), .val (.int p1), .val (.int p2), .val (.int p3), .val (.ref s_UNORDERED), .val (.int (1 : Int32)), .val (.ref b507), .val (.ref b514), .val (.ref b522), .unset, .unset] [(.ref b507), (.ref b543), (.ref b543), (.ref b531), (.ref b531)])) (fun _ k => XS.aload X543.here hx rfl (hb hby at_86) rfl rfl k) ?_
      have f552 : Arv Z h543 b507 k507 .char (1 : Int32) [(.int (p3 &&& (255 : Int32)))] (.int (0 : Int32)) := (Arv.ext (Arv.ext (Arv.other (Arv.ext (Arv.other (Arv.ext f511 E514) W519 ne_b507_b514) E522) W528 ne_b507_b522) E531) E543)
      have f553 : Exa Z h543 b507 "[C" := (Exa.ext E543 f544)
      have f554 : Exa Z h543 b514 "[C" := (Exa.ext E543 f545)
      have f555 : Exa Z h543 b522 "[C" := (Exa.ext E543 f546)
      have f556 : Exa Z h543 b531 "com/example/mailroom/mailroom/core/Envelope" := (Exa.ext E543 A531)
      obtain ⟨T551, v551, L551, X551, q551, st551⟩ := callNew X543 hx hZ (y := (⟨"java/lang/String", "<init>", "([C)V"⟩ : MethodName)) rfl hown (hw _ (List.mem_of_getElem? (i := 10) rfl)) (hw _ (List.mem_of_getElem? (i := 11) rfl)) (hw _ (List.mem_of_getElem? (i := 9) rfl)) (hw _ (List.mem_of_getElem? (i := 12) rfl)) (by decide) (rm_str_1 hw G b543 b507 k507 ((p3 &&& (255 : Int32))) h543 O548 (own_le255 _) A543 f550 f549 g_b543 f552 (Ne.symm ne_b507_b543)) e543 (W := 3) (by decide) (by decide) (by decide) (by decide) (g := (mkF m 88 #[.val (.int p0), .val (.int p1), .val (.int p2), .val (.int p3), .val (.ref s_UNORDERED), .val (.int (1 : Int32)), .val (.ref b507), .val (.ref b514), .val (.ref b522), .unset, .unset] [(.ref b507), (.ref b543), (.ref b543), (.ref b531), (.ref b531)])) rfl (by rw [hml]; rfl) (a := b543) (argsL := [(.ref b507)]) (rest := [(.ref b543), (.ref b531), (.ref b531)]) (lenOf pd___C_V rfl) rfl rfl (by show 2 * 0 + _ ≤ _; exact Nat.le_of_eq rfl) (hb hby at_88)
      obtain ⟨da_551, kd_551, rfl, N551q, K551q, p551_0, p551_1, p551_2, p551_3, p551_4⟩ := q551
      have N551 := Fr.app N528 N551q
      have sf558 : Safe Z own_EL s.vm h543 b543 := (Safe.ext E543 C535.1 (Safe.new (Nat.le_of_eq q543.symm)))
      have O559 := Old0.keep O548 K551q (allS g_b543 all0)
      have K559 := Keep.trans K548 K551q (allS (Or.inr z_b543) all0)
      have C557 := CHr.trans C547 (CHr.keep K551q (sfS sf558 sf0) C547.1)
      have hk := Nat.le_trans hk K551q.1
      have z_da_551 : h0.size ≤ da_551 := Nat.le_trans K548.1 p551_0
      have g_da_551 : Z.heap.size ≤ da_551 := Nat.le_trans O548.1 p551_0
      have ne_b507_da_551 : b507 ≠ da_551 := Nat.ne_of_lt (Nat.lt_of_lt_of_le f553.lt p551_0)
      have ne_b514_da_551 : b514 ≠ da_551 := Nat.ne_of_lt (Nat.lt_of_lt_of_le f554.lt p551_0)
      have ne_b522_da_551 : b522 ≠ da_551 := Nat.ne_of_lt (Nat.lt_of_lt_of_le f555.lt p551_0)
      have ne_b531_da_551 : b531 ≠ da_551 := Nat.ne_of_lt (Nat.lt_of_lt_of_le f556.lt p551_0)
      have ne_b543_da_551 : b543 ≠ da_551 := Nat.ne_of_lt (Nat.lt_of_lt_of_le A543.lt p551_0)
      refine GoS.of (T' := T551) (f' := (mkF m 91 #[.val (.int p0), .val (.int p1), .val (.int p2), .val (.int p3), .val (.ref s_UNORDERED), .val (.int (1 : Int32)), .val (.ref b507), .val (.ref b514), .val (.ref b522), .unset, .unset] [(.ref b543), (.ref b531), (.ref b531)])) (fun _ k => st551 _ k) ?_
      have f561 : Exa Z T551.heap b507 "[C" := (Exa.keep f553 K551q)
      have f562 : Exa Z T551.heap b514 "[C" := (Exa.keep f554 K551q)
      have f563 : Exa Z T551.heap b522 "[C" := (Exa.keep f555 K551q)
      have f564 : Exa Z T551.heap b531 "com/example/mailroom/mailroom/core/Envelope" := (Exa.keep f556 K551q)
      have f565 : Exa Z T551.heap b543 "java/lang/String" := (Exa.keep A543 K551q)
      obtain ⟨T560, h560, b560, q560, X560, e560, E560, A560, D560, st560⟩ := newOb X551 hx hZ hown (hw _ (List.mem_of_getElem? (i := 7) rfl)) (hw _ (List.mem_of_getElem? (i := 8) rfl)) (hw _ (List.mem_of_getElem? (i := 9) rfl)) rfl (g := (mkF m 91 #[.val (.int p0), .val (.int p1), .val (.int p2), .val (.int p3), .val (.ref s_UNORDERED), .val (.int (1 : Int32)), .val (.ref b507), .val (.ref b514), .val (.ref b522), .unset, .unset] [(.ref b543), (.ref b531), (.ref b531)])) rfl (hb hby at_91) (by decide) (by decide)
      have O567 := Old0.ext O559 E560
      have K567 := Keep.ext K559 E560
      have C566 := CHr.trans C557 (CHr.ext E560 C557.1)
      have hk := Nat.le_trans hk E560.1
      have g_b560 : Z.heap.size ≤ b560 := q560 ▸ O559.1
      have z_b560 : h0.size ≤ b560 := q560 ▸ K559.1
      have ne_b507_b560 : b507 ≠ b560 := q560 ▸ Nat.ne_of_lt f561.lt
      have ne_b514_b560 : b514 ≠ b560 := q560 ▸ Nat.ne_of_lt f562.lt
      have ne_b522_b560 : b522 ≠ b560 := q560 ▸ Nat.ne_of_lt f563.lt
      have ne_b531_b560 : b531 ≠ b560 := q560 ▸ Nat.ne_of_lt f564.lt
      have ne_b543_b560 : b543 ≠ b560 := q560 ▸ Nat.ne_of_lt f565.lt
      have ne_da_551_b560 : da_551 ≠ b560 := q560 ▸ Nat.ne_of_lt p551_4.lt
      have f568 : Fld Z h560 b560 "java/lang/String" "coder" "B" (.int (0 : Int32)) := D560 (Or.inr (hw _ (List.mem_of_getElem? (i := 33) rfl))) (ty := .byte) (by decide)
      have f569 : Fld Z h560 b560 "java/lang/String" "value" "[B" .null := D560 (Or.inr (hw _ (List.mem_of_getElem? (i := 35) rfl))) (ty := (.array .byte)) (by decide)
      refine GoS.of (T' := T560) (f' := (mkF m 94 #[.val (.int p0), .val (.int p1), .val (.int p2), .val (.int p3), .val (.ref s_UNORDERED), .val (.int (1 : Int32)), .val (.ref b507), .val (.ref b514), .val (.ref b522), .unset, .unset] [(.ref b560), (.ref b543), (.ref b531), (.ref b531)])) (fun _ k => st560 _ k) ?_
      refine GoS.of (T' := T560) (f' := (mkF m 95 #[.val (.int p0), .val (.int p1), .val (.int p2), .val (.int p3), .val (.ref s_UNORDERED), .val (.int (1 : Int32)), .val (.ref b507), .val (.ref b514), .val (.ref b522), .unset, .unset] [(.ref b560), (.ref b560), (.ref b543), (.ref b531), (.ref b531)])) (fun _ k => XS.dup X560.here hx rfl (hb hby at_94) rfl rfl k) ?_
      refine GoS.of (T' := T560) (f' := (mkF m 97 #[.val (.int p0), .val (.int p1), .val (.int p2), .val (.int p3), .val (.ref s_UNORDERED), .val (.int (1 : Int32)), .val (.ref b507), .val (.ref b514), .val (.ref b522), .unset, .unset] [(.ref b514), (.ref b560), (.ref b560), (.ref b543), (.ref b531), (.ref b531)])) (fun _ k => XS.aload X560.here hx rfl (hb hby at_95) rfl rfl k) ?_
      have f571 : Arv Z h560 b514 k514 .char (1 : Int32) [(.int (y8 &&& (255 : Int32)))] (.int (0 : Int32)) := (Arv.ext (Arv.keep (Arv.ext (Arv.ext (Arv.other (Arv.ext f519 E522) W528 ne_b514_b522) E531) E543) K551q (ninS ne_b514_b543 nin0)) E560)
      have f572 : Exa Z h560 b507 "[C" := (Exa.ext E560 f561)
      have f573 : Exa Z h560 b514 "[C" := (Exa.ext E560 f562)
      have f574 : Exa Z h560 b522 "[C" := (Exa.ext E560 f563)
      have f575 : Exa Z h560 b531 "com/example/mailroom/mailroom/core/Envelope" := (Exa.ext E560 f564)
      have f576 : Exa Z h560 b543 "java/lang/String" := (Exa.ext E560 f565)
      have f577 : Exa Z h560 da_551 "[B" := (Exa.ext E560 p551_4)
      obtain ⟨T570, v570, L570, X570, q570, st570⟩ := callNew X560 hx hZ (y := (⟨"java/lang/String", "<init>", "([C)V"⟩ : MethodName)) rfl hown (hw _ (List.mem_of_getElem? (i := 10) rfl)) (hw _ (List.mem_of_getElem? (i := 11) rfl)) (hw _ (List.mem_of_getElem? (i := 9) rfl)) (hw _ (List.mem_of_getElem? (i := 12) rfl)) (by decide) (rm_str_1 hw G b560 b514 k514 ((y8 &&& (255 : Int32))) h560 O567 (own_le255 _) A560 f569 f568 g_b560 f571 (Ne.symm ne_b514_b560)) e560 (W := 4) (by decide) (by decide) (by decide) (by decide) (g := (mkF m 97 #[.val (.int p0), .val (.int p1), .val (.int p2), .val (.int p3), .val (.ref s_UNORDERED), .val (.int (1 : Int32)), .val (.ref b507), .val (.ref b514), .val (.ref b522), .unset, .unset] [(.ref b514), (.ref b560), (.ref b560), (.ref b543), (.ref b531), (.ref b531)])) rfl (by rw [hml]; rfl) (a := b560) (argsL := [(.ref b514)]) (rest := [(.ref b560), (.ref b543), (.ref b531), (.ref b531)]) (lenOf pd___C_V rfl) rfl rfl (by show 2 * 0 + _ ≤ _; exact Nat.le_of_eq rfl) (hb hby at_97)
      obtain ⟨da_570, kd_570, rfl, N570q, K570q, p570_0, p570_1, p570_2, p570_3, p570_4⟩ := q570
      have N570 := Fr.app N551 N570q
      have sf579 : Safe Z own_EL s.vm h560 b560 := (Safe.ext E560 C557.1 (Safe.new (Nat.le_of_eq q560.symm)))
      have O580 := Old0.keep O567 K570q (allS g_b560 all0)
      have K580 := Keep.trans K567 K570q (allS (Or.inr z_b560) all0)
      have C578 := CHr.trans C566 (CHr.keep K570q (sfS sf579 sf0) C566.1)
      have hk := Nat.le_trans hk K570q.1
      have z_da_570 : h0.size ≤ da_570 := Nat.le_trans K567.1 p570_0
      have g_da_570 : Z.heap.size ≤ da_570 := Nat.le_trans O567.1 p570_0
      have ne_b507_da_570 : b507 ≠ da_570 := Nat.ne_of_lt (Nat.lt_of_lt_of_le f572.lt p570_0)
      have ne_b514_da_570 : b514 ≠ da_570 := Nat.ne_of_lt (Nat.lt_of_lt_of_le f573.lt p570_0)
      have ne_b522_da_570 : b522 ≠ da_570 := Nat.ne_of_lt (Nat.lt_of_lt_of_le f574.lt p570_0)
      have ne_b531_da_570 : b531 ≠ da_570 := Nat.ne_of_lt (Nat.lt_of_lt_of_le f575.lt p570_0)
      have ne_b543_da_570 : b543 ≠ da_570 := Nat.ne_of_lt (Nat.lt_of_lt_of_le f576.lt p570_0)
      have ne_da_551_da_570 : da_551 ≠ da_570 := Nat.ne_of_lt (Nat.lt_of_lt_of_le f577.lt p570_0)
      have ne_b560_da_570 : b560 ≠ da_570 := Nat.ne_of_lt (Nat.lt_of_lt_of_le A560.lt p570_0)
      refine GoS.of (T' := T570) (f' := (mkF m 100 #[.val (.int p0), .val (.int p1), .val (.int p2), .val (.int p3), .val (.ref s_UNORDERED), .val (.int (1 : Int32)), .val (.ref b507), .val (.ref b514), .val (.ref b522), .unset, .unset] [(.ref b560), (.ref b543), (.ref b531), (.ref b531)])) (fun _ k => st570 _ k) ?_
      refine GoS.of (T' := T570) (f' := (mkF m 101 #[.val (.int p0), .val (.int p1), .val (.int p2), .val (.int p3), .val (.ref s_UNORDERED), .val (.int (1 : Int32)), .val (.ref b507), .val (.ref b514), .val (.ref b522), .unset, .unset] [(.int p2), (.ref b560), (.ref b543), (.ref b531), (.ref b531)])) (fun _ k => XS.iloadN X570.here hx rfl (hb hby at_100) rfl k) ?_
      refine GoS.of (T' := T570) (f' := (mkF m 102 #[.val (.int p0), .val (.int p1), .val (.int p2), .val (.int p3), .val (.ref s_UNORDERED), .val (.int (1 : Int32)), .val (.ref b507), .val (.ref b514), .val (.ref b522), .unset, .unset] [(.int p1), (.int p2), (.ref b560), (.ref b543), (.ref b531), (.ref b531)])) (fun _ k => XS.iloadN X570.here hx rfl (hb hby at_101) rfl k) ?_
      obtain ⟨T581, v581, L581, X581, q581, st581⟩ := callSt X570 hx hZ (y := (⟨"java/lang/Integer", "valueOf", "(I)Ljava/lang/Integer;"⟩ : MethodName)) hown (hw _ (List.mem_of_getElem? (i := 36) rfl)) (hw _ (List.mem_of_getElem? (i := 37) rfl)) (hw _ (List.mem_of_getElem? (i := 38) rfl)) (hw _ (List.mem_of_getElem? (i := 39) rfl)) (by decide) (rm_valueOf hw G p1  T570.heap O580 ) rfl (W := 5) (by decide) (by decide) (by decide) (by decide) (g := (mkF m 102 #[.val (.int p0), .val (.int p1), .val (.int p2), .val (.int p3), .val (.ref s_UNORDERED), .val (.int (1 : Int32)), .val (.ref b507), .val (.ref b514), .val (.ref b522), .unset, .unset] [(.int p1), (.int p2), (.ref b560), (.ref b543), (.ref b531), (.ref b531)])) rfl (by rw [hml]; rfl) (argsL := [(.int p1)]) (rest := [(.int p2), (.ref b560), (.ref b543), (.ref b531), (.ref b531)]) (lenOf pd__I_Ljava_lang_Integer_ rfl) rfl rfl (by show 2 * 0 + _ ≤ _; exact Nat.le_of_eq rfl) (hb hby at_102)
      obtain ⟨r_581, rfl, N581q, K581q⟩ := q581
      have N581 := Fr.app N570 N581q
      have O583 := Old0.keep O580 K581q all0
      have K583 := Keep.trans K580 K581q all0
      have C582 := CHr.trans C578 (CHr.keep K581q sf0 C578.1)
      have hk := Nat.le_trans hk K581q.1
      refine GoS.of (T' := T581) (f' := (mkF m 105 #[.val (.int p0), .val (.int p1), .val (.int p2), .val (.int p3), .val (.ref s_UNORDERED), .val (.int (1 : Int32)), .val (.ref b507), .val (.ref b514), .val (.ref b522), .unset, .unset] [(.ref r_581), (.int p2), (.ref b560), (.ref b543), (.ref b531), (.ref b531)])) (fun _ k => st581 _ k) ?_
      have f585 : Exa Z T581.heap b507 "[C" := (Exa.keep (Exa.keep f572 K570q) K581q)
      have f586 : Exa Z T581.heap b514 "[C" := (Exa.keep (Exa.keep f573 K570q) K581q)
      have f587 : Exa Z T581.heap b522 "[C" := (Exa.keep (Exa.keep f574 K570q) K581q)
      have f588 : Exa Z T581.heap b531 "com/example/mailroom/mailroom/core/Envelope" := (Exa.keep (Exa.keep f575 K570q) K581q)
      have f589 : Exa Z T581.heap b543 "java/lang/String" := (Exa.keep (Exa.keep f576 K570q) K581q)
      have f590 : Exa Z T581.heap da_551 "[B" := (Exa.keep (Exa.keep f577 K570q) K581q)
      have f591 : Exa Z T581.heap b560 "java/lang/String" := (Exa.keep (Exa.keep A560 K570q) K581q)
      have f592 : Exa Z T581.heap da_570 "[B" := (Exa.keep p570_4 K581q)
      obtain ⟨T584, h584, b584, q584, X584, e584, E584, A584, D584, st584⟩ := newOb X581 hx hZ hown (hw _ (List.mem_of_getElem? (i := 7) rfl)) (hw _ (List.mem_of_getElem? (i := 8) rfl)) (hw _ (List.mem_of_getElem? (i := 9) rfl)) rfl (g := (mkF m 105 #[.val (.int p0), .val (.int p1), .val (.int p2), .val (.int p3), .val (.ref s_UNORDERED), .val (.int (1 : Int32)), .val (.ref b507), .val (.ref b514), .val (.ref b522), .unset, .unset] [(.ref r_581), (.int p2), (.ref b560), (.ref b543), (.ref b531), (.ref b531)])) rfl (hb hby at_105) (by decide) (by decide)
      have O594 := Old0.ext O583 E584
      have K594 := Keep.ext K583 E584
      have C593 := CHr.trans C582 (CHr.ext E584 C582.1)
      have hk := Nat.le_trans hk E584.1
      have g_b584 : Z.heap.size ≤ b584 := q584 ▸ O583.1
      have z_b584 : h0.size ≤ b584 := q584 ▸ K583.1
      have ne_b507_b584 : b507 ≠ b584 := q584 ▸ Nat.ne_of_lt f585.lt
      have ne_b514_b584 : b514 ≠ b584 := q584 ▸ Nat.ne_of_lt f586.lt
      have ne_b522_b584 : b522 ≠ b584 := q584 ▸ Nat.ne_of_lt f587.lt
      have ne_b531_b584 : b531 ≠ b584 := q584 ▸ Nat.ne_of_lt f588.lt
      have ne_b543_b584 : b543 ≠ b584 := q584 ▸ Nat.ne_of_lt f589.lt
      have ne_da_551_b584 : da_551 ≠ b584 := q584 ▸ Nat.ne_of_lt f590.lt
      have ne_b560_b584 : b560 ≠ b584 := q584 ▸ Nat.ne_of_lt f591.lt
      have ne_da_570_b584 : da_570 ≠ b584 := q584 ▸ Nat.ne_of_lt f592.lt
      have f595 : Fld Z h584 b584 "java/lang/String" "coder" "B" (.int (0 : Int32)) := D584 (Or.inr (hw _ (List.mem_of_getElem? (i := 33) rfl))) (ty := .byte) (by decide)
      have f596 : Fld Z h584 b584 "java/lang/String" "value" "[B" .null := D584 (Or.inr (hw _ (List.mem_of_getElem? (i := 35) rfl))) (ty := (.array .byte)) (by decide)
      refine GoS.of (T' := T584) (f' := (mkF m 108 #[.val (.int p0), .val (.int p1), .val (.int p2), .val (.int p3), .val (.ref s_UNORDERED), .val (.int (1 : Int32)), .val (.ref b507), .val (.ref b514), .val (.ref b522), .unset, .unset] [(.ref b584), (.ref r_581), (.int p2), (.ref b560), (.ref b543), (.ref b531), (.ref b531)])) (fun _ k => st584 _ k) ?_
      refine GoS.of (T' := T584) (f' := (mkF m 109 #[.val (.int p0), .val (.int p1), .val (.int p2), .val (.int p3), .val (.ref s_UNORDERED), .val (.int (1 : Int32)), .val (.ref b507), .val (.ref b514), .val (.ref b522), .unset, .unset] [(.ref b584), (.ref b584), (.ref r_581), (.int p2), (.ref b560), (.ref b543), (.ref b531), (.ref b531)])) (fun _ k => XS.dup X584.here hx rfl (hb hby at_108) rfl rfl k) ?_
      refine GoS.of (T' := T584) (f' := (mkF m 111 #[.val (.int p0), .val (.int p1), .val (.int p2), .val (.int p3), .val (.ref s_UNORDERED), .val (.int (1 : Int32)), .val (.ref b507), .val (.ref b514), .val (.ref b522), .unset, .unset] [(.ref b522), (.ref b584), (.ref b584), (.ref r_581), (.int p2), (.ref b560), (.ref b543), (.ref b531), (.ref b531)])) (fun _ k => XS.aload X584.here hx rfl (hb hby at_109) rfl rfl k) ?_
      have f598 : Arv Z h584 b522 k522 .char (1 : Int32) [(.int (y16 &&& (255 : Int32)))] (.int (0 : Int32)) := (Arv.ext (Arv.keep (Arv.keep (Arv.ext (Arv.keep (Arv.ext (Arv.ext f528 E531) E543) K551q (ninS ne_b522_b543 nin0)) E560) K570q (ninS ne_b522_b560 nin0)) K581q nin0) E584)
      have f599 : Exa Z h584 b507 "[C" := (Exa.ext E584 f585)
      have f600 : Exa Z h584 b514 "[C" := (Exa.ext E584 f586)
      have f601 : Exa Z h584 b522 "[C" := (Exa.ext E584 f587)
      have f602 : Exa Z h584 b531 "com/example/mailroom/mailroom/core/Envelope" := (Exa.ext E584 f588)
      have f603 : Exa Z h584 b543 "java/lang/String" := (Exa.ext E584 f589)
      have f604 : Exa Z h584 da_551 "[B" := (Exa.ext E584 f590)
      have f605 : Exa Z h584 b560 "java/lang/String" := (Exa.ext E584 f591)
      have f606 : Exa Z h584 da_570 "[B" := (Exa.ext E584 f592)
      obtain ⟨T597, v597, L597, X597, q597, st597⟩ := callNew X584 hx hZ (y := (⟨"java/lang/String", "<init>", "([C)V"⟩ : MethodName)) rfl hown (hw _ (List.mem_of_getElem? (i := 10) rfl)) (hw _ (List.mem_of_getElem? (i := 11) rfl)) (hw _ (List.mem_of_getElem? (i := 9) rfl)) (hw _ (List.mem_of_getElem? (i := 12) rfl)) (by decide) (rm_str_1 hw G b584 b522 k522 ((y16 &&& (255 : Int32))) h584 O594 (own_le255 _) A584 f596 f595 g_b584 f598 (Ne.symm ne_b522_b584)) e584 (W := 7) (by decide) (by decide) (by decide) (by decide) (g := (mkF m 111 #[.val (.int p0), .val (.int p1), .val (.int p2), .val (.int p3), .val (.ref s_UNORDERED), .val (.int (1 : Int32)), .val (.ref b507), .val (.ref b514), .val (.ref b522), .unset, .unset] [(.ref b522), (.ref b584), (.ref b584), (.ref r_581), (.int p2), (.ref b560), (.ref b543), (.ref b531), (.ref b531)])) rfl (by rw [hml]; rfl) (a := b584) (argsL := [(.ref b522)]) (rest := [(.ref b584), (.ref r_581), (.int p2), (.ref b560), (.ref b543), (.ref b531), (.ref b531)]) (lenOf pd___C_V rfl) rfl rfl (by show 2 * 0 + _ ≤ _; exact Nat.le_of_eq rfl) (hb hby at_111)
      obtain ⟨da_597, kd_597, rfl, N597q, K597q, p597_0, p597_1, p597_2, p597_3, p597_4⟩ := q597
      have N597 := Fr.app N581 N597q
      have sf608 : Safe Z own_EL s.vm h584 b584 := (Safe.ext E584 C582.1 (Safe.new (Nat.le_of_eq q584.symm)))
      have O609 := Old0.keep O594 K597q (allS g_b584 all0)
      have K609 := Keep.trans K594 K597q (allS (Or.inr z_b584) all0)
      have C607 := CHr.trans C593 (CHr.keep K597q (sfS sf608 sf0) C593.1)
      have hk := Nat.le_trans hk K597q.1
      have z_da_597 : h0.size ≤ da_597 := Nat.le_trans K594.1 p597_0
      have g_da_597 : Z.heap.size ≤ da_597 := Nat.le_trans O594.1 p597_0
      have ne_b507_da_597 : b507 ≠ da_597 := Nat.ne_of_lt (Nat.lt_of_lt_of_le f599.lt p597_0)
      have ne_b514_da_597 : b514 ≠ da_597 := Nat.ne_of_lt (Nat.lt_of_lt_of_le f600.lt p597_0)
      have ne_b522_da_597 : b522 ≠ da_597 := Nat.ne_of_lt (Nat.lt_of_lt_of_le f601.lt p597_0)
      have ne_b531_da_597 : b531 ≠ da_597 := Nat.ne_of_lt (Nat.lt_of_lt_of_le f602.lt p597_0)
      have ne_b543_da_597 : b543 ≠ da_597 := Nat.ne_of_lt (Nat.lt_of_lt_of_le f603.lt p597_0)
      have ne_da_551_da_597 : da_551 ≠ da_597 := Nat.ne_of_lt (Nat.lt_of_lt_of_le f604.lt p597_0)
      have ne_b560_da_597 : b560 ≠ da_597 := Nat.ne_of_lt (Nat.lt_of_lt_of_le f605.lt p597_0)
      have ne_da_570_da_597 : da_570 ≠ da_597 := Nat.ne_of_lt (Nat.lt_of_lt_of_le f606.lt p597_0)
      have ne_b584_da_597 : b584 ≠ da_597 := Nat.ne_of_lt (Nat.lt_of_lt_of_le A584.lt p597_0)
      refine GoS.of (T' := T597) (f' := (mkF m 114 #[.val (.int p0), .val (.int p1), .val (.int p2), .val (.int p3), .val (.ref s_UNORDERED), .val (.int (1 : Int32)), .val (.ref b507), .val (.ref b514), .val (.ref b522), .unset, .unset] [(.ref b584), (.ref r_581), (.int p2), (.ref b560), (.ref b543), (.ref b531), (.ref b531)])) (fun _ k => st597 _ k) ?_
      refine GoS.of (T' := T597) (f' := (mkF m 116 #[.val (.int p0), .val (.int p1), .val (.int p2), .val (.int p3), .val (.ref s_UNORDERED), .val (.int (1 : Int32)), .val (.ref b507), .val (.ref b514), .val (.ref b522), .unset, .unset] [(.int (1 : Int32)), (.ref b584), (.ref r_581), (.int p2), (.ref b560), (.ref b543), (.ref b531), (.ref b531)])) (fun _ k => XS.iload X597.here hx rfl (hb hby at_114) rfl k) ?_
      have f611 : Exa Z T597.heap b531 "com/example/mailroom/mailroom/core/Envelope" := (Exa.keep f602 K597q)
      have f612 : Fld Z T597.heap b531 "com/example/mailroom/mailroom/core/Envelope" "sender" "Ljava/lang/String;" .null := (Fld.keep (Fld.ext E584 (Fld.keep (Fld.keep (Fld.ext E560 (Fld.keep (Fld.ext E543 f537) K551q (ninS ne_b531_b543 nin0))) K570q (ninS ne_b531_b560 nin0)) K581q nin0)) K597q (ninS ne_b531_b584 nin0))
      have f613 : Fld Z T597.heap b531 "com/example/mailroom/mailroom/core/Envelope" "receiver" "Ljava/lang/String;" .null := (Fld.keep (Fld.ext E584 (Fld.keep (Fld.keep (Fld.ext E560 (Fld.keep (Fld.ext E543 f538) K551q (ninS ne_b531_b543 nin0))) K570q (ninS ne_b531_b560 nin0)) K581q nin0)) K597q (ninS ne_b531_b584 nin0))
      have f614 : Fld Z T597.heap b531 "com/example/mailroom/mailroom/core/Envelope" "number" "I" (.int (0 : Int32)) := (Fld.keep (Fld.ext E584 (Fld.keep (Fld.keep (Fld.ext E560 (Fld.keep (Fld.ext E543 f539) K551q (ninS ne_b531_b543 nin0))) K570q (ninS ne_b531_b560 nin0)) K581q nin0)) K597q (ninS ne_b531_b584 nin0))
      have f615 : Fld Z T597.heap b531 "com/example/mailroom/mailroom/core/Envelope" "message" "Ljava/lang/Object;" .null := (Fld.keep (Fld.ext E584 (Fld.keep (Fld.keep (Fld.ext E560 (Fld.keep (Fld.ext E543 f540) K551q (ninS ne_b531_b543 nin0))) K570q (ninS ne_b531_b560 nin0)) K581q nin0)) K597q (ninS ne_b531_b584 nin0))
      have f616 : Fld Z T597.heap b531 "com/example/mailroom/mailroom/core/Envelope" "replyTo" "Ljava/lang/String;" .null := (Fld.keep (Fld.ext E584 (Fld.keep (Fld.keep (Fld.ext E560 (Fld.keep (Fld.ext E543 f541) K551q (ninS ne_b531_b543 nin0))) K570q (ninS ne_b531_b560 nin0)) K581q nin0)) K597q (ninS ne_b531_b584 nin0))
      have f617 : Fld Z T597.heap b531 "com/example/mailroom/mailroom/core/Envelope" "scheduled" "Z" (.int (0 : Int32)) := (Fld.keep (Fld.ext E584 (Fld.keep (Fld.keep (Fld.ext E560 (Fld.keep (Fld.ext E543 f542) K551q (ninS ne_b531_b543 nin0))) K570q (ninS ne_b531_b560 nin0)) K581q nin0)) K597q (ninS ne_b531_b584 nin0))
      obtain ⟨T610, v610, L610, X610, q610, hS, hg610, hZ, hown, Cq610, st610⟩ := callNewS X597 hx hZ (y := (⟨"com/example/mailroom/mailroom/core/Envelope", "<init>", "(Ljava/lang/String;Ljava/lang/String;ILjava/lang/Object;Ljava/lang/String;Z)V"⟩ : MethodName)) rfl hS hk hEL C607.1 hown (hw _ (List.mem_of_getElem? (i := 43) rfl)) (hw _ (List.mem_of_getElem? (i := 44) rfl)) (hw _ (List.mem_of_getElem? (i := 6) rfl)) (hw _ (List.mem_of_getElem? (i := 45) rfl)) (by decide) (rm_env1 hw G b531 b543 b560 p2 r_581 b584  T597.heap O609 f611 f612 f613 f614 f615 f616 f617 g_b531) rfl (W := 1) (by decide) (by decide) (by decide) (by decide) (g := (mkF m 116 #[.val (.int p0), .val (.int p1), .val (.int p2), .val (.int p3), .val (.ref s_UNORDERED), .val (.int (1 : Int32)), .val (.ref b507), .val (.ref b514), .val (.ref b522), .unset, .unset] [(.int (1 : Int32)), (.ref b584), (.ref r_581), (.int p2), (.ref b560), (.ref b543), (.ref b531), (.ref b531)])) rfl (by rw [hml]; rfl) (a := b531) (argsL := [(.ref b543), (.ref b560), (.int p2), (.ref r_581), (.ref b584), (.int (1 : Int32))]) (rest := [(.ref b531)]) (lenOf pd__Ljava_lang_String_Ljava_lang_String_ILjava_lang_Object_Ljava_lang_String_Z_V rfl) rfl rfl (by show 2 * 0 + _ ≤ _; exact Nat.le_of_eq rfl) (hb hby at_116)
      obtain ⟨rfl, N610q, K610q, p610_0⟩ := q610
      have N610 := Fr.app N597 N610q
      have O618 := Old0.keep O609 K610q (allS g_b531 all0)
      have K618 := Keep.trans K609 K610q (allS (Or.inr z_b531) all0)
      have C610 := CHr.trans C607 Cq610
      have hk := Nat.le_refl T610.heap.size
      refine GoS.of (T' := T610) (f' := (mkF m 119 #[.val (.int p0), .val (.int p1), .val (.int p2), .val (.int p3), .val (.ref s_UNORDERED), .val (.int (1 : Int32)), .val (.ref b507), .val (.ref b514), .val (.ref b522), .unset, .unset] [(.ref b531)])) (fun _ k => st610 _ k) ?_
      refine GoS.of (T' := T610) (f' := (mkF m 121 #[.val (.int p0), .val (.int p1), .val (.int p2), .val (.int p3), .val (.ref s_UNORDERED), .val (.int (1 : Int32)), .val (.ref b507), .val (.ref b514), .val (.ref b522), .val (.ref b531), .unset] [])) (fun _ k => XS.astore X610.here hx rfl (hb hby at_119) rfl rfl (l' := #[.val (.int p0), .val (.int p1), .val (.int p2), .val (.int p3), .val (.ref s_UNORDERED), .val (.int (1 : Int32)), .val (.ref b507), .val (.ref b514), .val (.ref b522), .val (.ref b531), .unset]) rfl k) ?_
      refine GoS.of (T' := T610) (f' := (mkF m 123 #[.val (.int p0), .val (.int p1), .val (.int p2), .val (.int p3), .val (.ref s_UNORDERED), .val (.int (1 : Int32)), .val (.ref b507), .val (.ref b514), .val (.ref b522), .val (.ref b531), .unset] [(.ref s_UNORDERED)])) (fun _ k => XS.aload X610.here hx rfl (hb hby at_121) rfl rfl k) ?_
      obtain ⟨T619, X619, e619, st619⟩ := getS2 X610 hx hZ hown (host := "") (Or.inl (hw _ (List.mem_of_getElem? (i := 0) rfl))) Via.refl rfl (Sta.ext O618 S_FIFO) (g := (mkF m 123 #[.val (.int p0), .val (.int p1), .val (.int p2), .val (.int p3), .val (.ref s_UNORDERED), .val (.int (1 : Int32)), .val (.ref b507), .val (.ref b514), .val (.ref b522), .val (.ref b531), .unset] [(.ref s_UNORDERED)])) rfl (hb hby at_123)
      refine GoS.of (T' := T619) (f' := (mkF m 126 #[.val (.int p0), .val (.int p1), .val (.int p2), .val (.int p3), .val (.ref s_UNORDERED), .val (.int (1 : Int32)), .val (.ref b507), .val (.ref b514), .val (.ref b522), .val (.ref b531), .unset] [(.ref s_FIFO), (.ref s_UNORDERED)])) (fun _ k => st619 _ k) ?_
      have hc620 : ¬ (s_UNORDERED = s_FIFO) := ne_UF
      refine GoS.of (T' := T619) (f' := (mkF m 144 #[.val (.int p0), .val (.int p1), .val (.int p2), .val (.int p3), .val (.ref s_UNORDERED), .val (.int (1 : Int32)), .val (.ref b507), .val (.ref b514), .val (.ref b522), .val (.ref b531), .unset] [])) (fun _ k => Jvm.RoadKit.acmp (g := (mkF m 126 #[.val (.int p0), .val (.int p1), .val (.int p2), .val (.int p3), .val (.ref s_UNORDERED), .val (.int (1 : Int32)), .val (.ref b507), .val (.ref b514), .val (.ref b522), .val (.ref b531), .unset] [(.ref s_FIFO), (.ref s_UNORDERED)])) X619 hx rfl rfl rfl (pc0 := 126) (pc' := 144) (same := false) rfl (hb hby at_126) rfl (decide_eq_false fun q => hc620 (Value.ref.inj q)) (by decide) (by decide) k) ?_
      refine GoS.of (T' := T619) (f' := (mkF m 145 #[.val (.int p0), .val (.int p1), .val (.int p2), .val (.int p3), .val (.ref s_UNORDERED), .val (.int (1 : Int32)), .val (.ref b507), .val (.ref b514), .val (.ref b522), .val (.ref b531), .unset] [(.int (0 : Int32))])) (fun _ k => XS.iconst X619.here hx rfl (hb hby at_144) k) ?_
      refine GoS.of (T' := T619) (f' := (mkF m 147 #[.val (.int p0), .val (.int p1), .val (.int p2), .val (.int p3), .val (.ref s_UNORDERED), .val (.int (1 : Int32)), .val (.ref b507), .val (.ref b514), .val (.ref b522), .val (.ref b531), .val (.int (0 : Int32))] [])) (fun _ k => XS.istore X619.here hx rfl (hb hby at_145) rfl (l' := #[.val (.int p0), .val (.int p1), .val (.int p2), .val (.int p3), .val (.ref s_UNORDERED), .val (.int (1 : Int32)), .val (.ref b507), .val (.ref b514), .val (.ref b522), .val (.ref b531), .val (.int (0 : Int32))]) rfl k) ?_
      refine GoS.of (T' := T619) (f' := (mkF m 149 #[.val (.int p0), .val (.int p1), .val (.int p2), .val (.int p3), .val (.ref s_UNORDERED), .val (.int (1 : Int32)), .val (.ref b507), .val (.ref b514), .val (.ref b522), .val (.ref b531), .val (.int (0 : Int32))] [(.ref s_UNORDERED)])) (fun _ k => XS.aload X619.here hx rfl (hb hby at_147) rfl rfl k) ?_
      refine GoS.of (T' := T619) (f' := (mkF m 151 #[.val (.int p0), .val (.int p1), .val (.int p2), .val (.int p3), .val (.ref s_UNORDERED), .val (.int (1 : Int32)), .val (.ref b507), .val (.ref b514), .val (.ref b522), .val (.ref b531), .val (.int (0 : Int32))] [(.ref b531), (.ref s_UNORDERED)])) (fun _ k => XS.aload X619.here hx rfl (hb hby at_149) rfl rfl k) ?_
      have f622 : Exa Z T610.heap b531 "com/example/mailroom/mailroom/core/Envelope" := (Exa.keep f611 K610q)
      obtain ⟨T621, v621, L621, X621, q621, st621⟩ := callVi X619 hx hZ (y := (⟨"com/example/mailroom/mailroom/core/Delivery", "holdsBack", "(Lcom/example/mailroom/mailroom/core/Envelope;)Z"⟩ : MethodName)) (z := (⟨"com/example/mailroom/mailroom/core/Delivery", "holdsBack", "(Lcom/example/mailroom/mailroom/core/Envelope;)Z"⟩ : MethodName)) hown (hw _ (List.mem_of_getElem? (i := 74) rfl)) (hw _ (List.mem_of_getElem? (i := 75) rfl)) (notFace_of_selects (args := #[]) (mvT hZ (hw _ (List.mem_of_getElem? (i := 77) rfl)))) (hw _ (List.mem_of_getElem? (i := 77) rfl)) (hw _ (List.mem_of_getElem? (i := 76) rfl)) (hw _ (List.mem_of_getElem? (i := 78) rfl)) (hw _ (List.mem_of_getElem? (i := 1) rfl)) (by decide) (rm_hold_UNORDERED1 hw G b531  T610.heap O618 f622 p610_0) e619 (W := 0) (by decide) (by decide) (by decide) (by decide) (Exa.ext O618 E_s_UNORDERED) (g := (mkF m 151 #[.val (.int p0), .val (.int p1), .val (.int p2), .val (.int p3), .val (.ref s_UNORDERED), .val (.int (1 : Int32)), .val (.ref b507), .val (.ref b514), .val (.ref b522), .val (.ref b531), .val (.int (0 : Int32))] [(.ref b531), (.ref s_UNORDERED)])) rfl (by rw [hml]; rfl) (argsL := [(.ref b531)]) (rest := []) (lenOf pd__Lcom_example_mailroom_mailroom_core_Envelope__Z rfl) rfl rfl (by show 2 * 0 + _ ≤ _; exact Nat.le_of_eq rfl) (hb hby at_151)
      obtain ⟨rfl, e621, rfl⟩ := q621
      have N621 := Fr.app N610 (Fr.nil _)
      refine GoS.of (T' := T621) (f' := (mkF m 154 #[.val (.int p0), .val (.int p1), .val (.int p2), .val (.int p3), .val (.ref s_UNORDERED), .val (.int (1 : Int32)), .val (.ref b507), .val (.ref b514), .val (.ref b522), .val (.ref b531), .val (.int (0 : Int32))] [(.int (0 : Int32))])) (fun _ k => st621 _ k) ?_
      refine GoS.of (T' := T621) (f' := (mkF m 156 #[.val (.int p0), .val (.int p1), .val (.int p2), .val (.int p3), .val (.ref s_UNORDERED), .val (.int (1 : Int32)), .val (.ref b507), .val (.ref b514), .val (.ref b522), .val (.ref b531), .val (.int (0 : Int32))] [(.int (0 : Int32)), (.int (0 : Int32))])) (fun _ k => XS.iload X621.here hx rfl (hb hby at_154) rfl k) ?_
      refine GoS.of (T' := T621) (f' := (mkF m 159 #[.val (.int p0), .val (.int p1), .val (.int p2), .val (.int p3), .val (.ref s_UNORDERED), .val (.int (1 : Int32)), .val (.ref b507), .val (.ref b514), .val (.ref b522), .val (.ref b531), .val (.int (0 : Int32))] [])) (fun _ k => XS.icmpNo X621.here hx rfl (hb hby at_156) rfl (teq (by decide : (0 : Int32) = (0 : Int32))).2 k) ?_
      refine GoS.of (T' := T621) (f' := (mkF m 160 #[.val (.int p0), .val (.int p1), .val (.int p2), .val (.int p3), .val (.ref s_UNORDERED), .val (.int (1 : Int32)), .val (.ref b507), .val (.ref b514), .val (.ref b522), .val (.ref b531), .val (.int (0 : Int32))] [(.int (1 : Int32))])) (fun _ k => XS.iconst X621.here hx rfl (hb hby at_159) k) ?_
      refine GoS.of (T' := T621) (f' := (mkF m 164 #[.val (.int p0), .val (.int p1), .val (.int p2), .val (.int p3), .val (.ref s_UNORDERED), .val (.int (1 : Int32)), .val (.ref b507), .val (.ref b514), .val (.ref b522), .val (.ref b531), .val (.int (0 : Int32))] [(.int (1 : Int32))])) (fun _ k => XS.goto X621.here hx rfl (pc0 := 160) (pc' := 164) rfl (hb hby at_160) (by decide) (by decide) k) ?_
      exact GoS.retB X621 hx hlk hS hk hZ hEL C610 e621 hret (by simp) (hb hby at_164) (by decide) (by decide) (z' := (1 : Int32)) rfl (by rw [e621]; exact ⟨rfl, N621, K618⟩)
set_option maxRecDepth 65536 in
set_option maxHeartbeats 40000000 in
theorem comes_1 {Post : Tables → Env → Array Value → State → Outcome → State → Prop} (hpost : ∀ tb e args s v u, (limb_1_1.after args s (.returned v) u = true ∧ limb_1_2.after args s (.returned v) u = true ∧ True) → ReturnedEndW s (.returned v) u (Jvm.fieldLocs frame_1_writes args s ++ Jvm.arrayLocs frame_1_arrays args s ++ Jvm.staticLocs frame_1_statics s) 40 4288 → Post tb e args s (.returned v) u) :
    ArmFor flags0 classFile x code maxLocals ret World_1 tables_1 room_1 Calls_1 rest_1 Pre_1 Post := by
  intro l hfl _ _ p e ha hc hk s m args below hf hA hF happ hP
  obtain ⟨hcalls, hrest, hpre⟩ := hP
  obtain ⟨-, -, -, hnamed, -, -, -, hat⟩ := (Spec.applies_iff hf).mp happ
  obtain ⟨hg, hn⟩ := and_e (Cond.before_iff.mp (show (Jvm.Cond.and given_1 narrow_1).before args s = true from hpre))
  obtain ⟨ga0, gb0⟩ := and_e hg
  obtain ⟨ga1, gb1⟩ := and_e gb0
  obtain ⟨ga2, gb2⟩ := and_e gb1
  obtain ⟨ga3, gb3⟩ := and_e gb2
  obtain ⟨w0, w1, w2, w3, rfl⟩ : ∃ w0 w1 w2 w3 : Value, args = #[w0, w1, w2, w3] := by
    have hs : args.size = 4 := by simpa [Cond.value, given_1] using ga0
    obtain ⟨L⟩ := args
    match L, hs with
    | [w0, w1, w2, w3], _ => exact ⟨w0, w1, w2, w3, rfl⟩
  have hw := fun d (hd : d ∈ tables_1) => atoms_spec (ws := Jvm.Cond.code x code maxLocals ret :: tables_1) hat d (List.mem_cons_of_mem _ hd)
  have hfit : Fit s := fun {y c} hc i hi => by
    obtain ⟨ha, rfl⟩ := Array.getElem?_eq_some_iff.mp hc
    have q := List.all_eq_true.mp ((Array.all_eq_true_iff_forall_mem.mp hF) _ (Array.getElem_mem ha)) i (List.mem_range.mpr hi)
    simpa [Array.getElem?_eq_getElem hi] using q
  obtain ⟨hsets, hown0⟩ := atoms_of _ (rest_1_c_eq ▸ (show rest_1_c.before _ s = true from hrest))
  obtain ⟨i0, ei0⟩ := is_v ga1
  obtain rfl : w0 = (.int i0) := Option.some.inj ei0
  obtain ⟨i1, ei1⟩ := is_v ga2
  obtain rfl : w1 = (.int i1) := Option.some.inj ei1
  obtain ⟨i2, ei2⟩ := is_v ga3
  obtain rfl : w2 = (.int i2) := Option.some.inj ei2
  obtain ⟨i3, ei3⟩ := is_v gb3
  obtain rfl : w3 = (.int i3) := Option.some.inj ei3
  obtain ⟨na1, nb1⟩ := and_e hn
  obtain ⟨s_FIFO, ev_s_FIFO⟩ := exa_v na1
  have S_FIFO : Sta s s.heap "com/example/mailroom/mailroom/core/Delivery" "FIFO" "Lcom/example/mailroom/mailroom/core/Delivery;" (.ref s_FIFO) := Sta.start ev_s_FIFO (Or.inr ⟨(hw _ (List.mem_of_getElem? (i := 1) rfl)), (hw _ (List.mem_of_getElem? (i := 2) rfl))⟩)
  have E_s_FIFO : Exa s s.heap s_FIFO "com/example/mailroom/mailroom/core/Delivery" := Exa.start ev_s_FIFO na1
  obtain ⟨na2, nb2⟩ := and_e nb1
  have ev2 := eqI_v na2
  have F_s_FIFO_perPairOrder : Fld s s.heap s_FIFO "com/example/mailroom/mailroom/core/Delivery" "perPairOrder" "Z" (.int (1 : Int32)) := Fld.start ((fld_at ev_s_FIFO).symm.trans ev2)
  obtain ⟨na4, nb4⟩ := and_e nb2
  obtain ⟨s_UNORDERED, ev_s_UNORDERED⟩ := exa_v na4
  have S_UNORDERED : Sta s s.heap "com/example/mailroom/mailroom/core/Delivery" "UNORDERED" "Lcom/example/mailroom/mailroom/core/Delivery;" (.ref s_UNORDERED) := Sta.start ev_s_UNORDERED (Or.inr ⟨(hw _ (List.mem_of_getElem? (i := 1) rfl)), (hw _ (List.mem_of_getElem? (i := 87) rfl))⟩)
  have E_s_UNORDERED : Exa s s.heap s_UNORDERED "com/example/mailroom/mailroom/core/Delivery" := Exa.start ev_s_UNORDERED na4
  obtain ⟨na5, nb5⟩ := and_e nb4
  have ev5 := eqI_v na5
  have F_s_UNORDERED_ordinal : Fld s s.heap s_UNORDERED "java/lang/Enum" "ordinal" "I" (.int (1 : Int32)) := Fld.start ((fld_at ev_s_UNORDERED).symm.trans ev5)
  obtain ⟨na7, nb7⟩ := and_e nb5
  have ev7 := eqI_v na7
  have F_s_FIFO_ordinal : Fld s s.heap s_FIFO "java/lang/Enum" "ordinal" "I" (.int (0 : Int32)) := Fld.start ((fld_at ev_s_FIFO).symm.trans ev7)
  have ev8 := eqI_v nb7
  have F_s_UNORDERED_perPairOrder : Fld s s.heap s_UNORDERED "com/example/mailroom/mailroom/core/Delivery" "perPairOrder" "Z" (.int (0 : Int32)) := Fld.start ((fld_at ev_s_UNORDERED).symm.trans ev8)
  have js1 := Cond.before_iff.mp (hsets _ (List.mem_of_getElem? (i := 1) rfl))
  obtain ⟨s_COMPACT_STRINGS, ev_s_COMPACT_STRINGS⟩ := is_v js1
  have S_COMPACT_STRINGS : Sta s s.heap "java/lang/String" "COMPACT_STRINGS" "Z" (.int s_COMPACT_STRINGS) := Sta.start ev_s_COMPACT_STRINGS (Or.inl (hsets _ (List.mem_of_getElem? (i := 0) rfl)))
  have js2 := Cond.before_iff.mp (hsets _ (List.mem_of_getElem? (i := 2) rfl))
  have hne_s_COMPACT_STRINGS_0 : ¬ (s_COMPACT_STRINGS = (0 : Int32)) := neI_v ev_s_COMPACT_STRINGS js2
  have js12 := Cond.before_iff.mp (hsets _ (List.mem_of_getElem? (i := 12) rfl))
  have ev9 := eqI_v js12
  have S_high : Sta s s.heap "java/lang/Integer$IntegerCache" "high" "I" (.int (127 : Int32)) := Sta.start ev9 (Or.inl (hsets _ (List.mem_of_getElem? (i := 10) rfl)))
  have js13 := Cond.before_iff.mp (hsets _ (List.mem_of_getElem? (i := 13) rfl))
  obtain ⟨s_cache, ev_s_cache⟩ := arr_v js13
  have S_cache : Sta s s.heap "java/lang/Integer$IntegerCache" "cache" "[Ljava/lang/Integer;" (.ref s_cache) := Sta.start ev_s_cache (Or.inr ⟨(hw _ (List.mem_of_getElem? (i := 41) rfl)), (hsets _ (List.mem_of_getElem? (i := 11) rfl))⟩)
  obtain ⟨cl_s_cache, A_s_cache⟩ := Arr.start ev_s_cache js13
  have js14 := Cond.before_iff.mp (hsets _ (List.mem_of_getElem? (i := 14) rfl))
  have E_s_cache : Exa s s.heap s_cache "[Ljava/lang/Integer;" := Exa.start ev_s_cache js14
  have js15 := Cond.before_iff.mp (hsets _ (List.mem_of_getElem? (i := 15) rfl))
  have ev10 := eqI_v js15
  obtain ⟨hl_cache, hz_cache⟩ := own_len ev_s_cache A_s_cache ev10
  have A_cache : Arr s s.heap s_cache cl_s_cache (.object "java/lang/Integer") := A_s_cache
  have Z_cache : cl_s_cache.slots.size = 256 := by
    have q := len_toInt hl_cache
    rw [hz_cache] at q
    have q2 : ((256 : Int32)).toInt = 256 := by decide
    omega
  have H_cache : ∀ n, n < 256 → ∃ y, cl_s_cache.slots[n]? = some (.ref y) := own_cache ev_s_cache A_s_cache Z_cache (Cond.before_iff.mp (hsets _ (List.mem_of_getElem? (i := 16) rfl)))
  have ne_UF : ¬ (s_UNORDERED = s_FIFO) := Fld.ne F_s_UNORDERED_ordinal F_s_FIFO_ordinal (by decide)
  have hCH : CHv s own_EL s.vm s.heap := CHv.start (own_EW hw) (fun p hp => nomatch hp) (hsets _ (List.mem_of_getElem? (i := 2) rfl)) (hw _ (List.mem_of_getElem? (i := 25) rfl)) (hw _ (List.mem_of_getElem? (i := 8) rfl))
  obtain ⟨n, o, h1, h2, h3, _, L, rfl, ⟨rfl, N, _⟩, -, hq⟩ := rm_law hw ⟨S_FIFO, E_s_FIFO, F_s_FIFO_perPairOrder, S_UNORDERED, E_s_UNORDERED, F_s_UNORDERED_ordinal, F_s_FIFO_ordinal, F_s_UNORDERED_perPairOrder, S_COMPACT_STRINGS, hne_s_COMPACT_STRINGS_0, S_high, S_cache, E_s_cache, A_cache, Z_cache, H_cache, ne_UF⟩ i0 i1 i2 i3 s.heap ext_rfl tables_1 p e ha hc hk s m _ below hf ((Spec.applies_iff_loose hf).mp happ).1 ⟨rfl, State.Warmed39.refl s, rfl, hCH⟩ trivial
  refine ⟨n, _, h1, h2, h3, hpost _ _ _ _ _ _ ⟨Cond.after_iff.mpr rfl, Cond.after_iff.mpr (eq_i res_at (Term.int_eval (1)) rfl), trivial⟩ ⟨hq.1, hq.2.1, hq.2.2.1, (hq.2.2.2.sift fun y hy => Or.inr (N y hy)).mono (by decide) (by decide)⟩⟩
theorem main_1_1 : Claimed_1_1 := comes_1 fun _ _ _ _ _ _ h hF => ⟨h.1, hF⟩
theorem main_1_2 : Claimed_1_2 := comes_1 fun _ _ _ _ _ _ h hF => ⟨h.2.1, hF⟩
end Jvm.Pilot.@@N@@
namespace Jvm.Pilot.@@N@@
open Jvm Jvm.ClassFile Sem Op Lib Jvm.Free Jvm.Stand Jvm.Pilot.@@N@@.Jvm.D
/-! MADE BY PROGRAM (witnessworld.py) out of the Statement's table words and the real class files: 28 classes; the members and pool entries that the words name. The judged class is class 1, her method 1. -/
namespace start1
open Jvm.ClassFile
def u (s : String) : CpInfo := .utf8 (stringToUtf16 s)
/-- a pool by its gaps: so many unusable entries, then the entry; so many at the end -/
def gap : Nat → List CpInfo → List CpInfo
  | 0, r => r
  | n + 1, r => .unusable :: gap n r
def poolList (es : List (Nat × CpInfo)) (last : Nat) : List CpInfo := es.foldr (fun e r => gap e.1 (e.2 :: r)) (gap last [])
def pool (es : List (Nat × CpInfo)) (last : Nat) : Array CpInfo := ⟨poolList es last⟩
def fileOf (pool : Array CpInfo) (this : Nat) (attrs : Array Attribute := #[]) (ms : Array MethodInfo := #[]) (fl : Nat := 33) (sup : Nat := 0) (ifs : Array Nat := #[]) (fds : Array FieldInfo := #[]) : ClassFile where
  minorVersion := 0
  majorVersion := 65
  constantPool := pool
  accessFlags := fl
  thisClass := this
  superClass := sup
  interfaces := ifs
  fields := fds
  methods := ms
  attributes := attrs
def plain (name : String) (sup : Option ClassId) : Class where
  name := name
  kind := .ordinary
  loader := none
  accessFlags := 33
  super := sup
  interfaces := #[]
  cf := none
  fields := #[]
  methods := #[]
  instanceTypes := #[]
  staticTypes := #[]
  resolved := #[]
  callSites := []
  init := .initialized
  statics := none
  mirror := none

def pool0 : Array CpInfo := pool [(5, u "<init>"), (0, u "()V"), (1, .class_ 10), (1, u "java/lang/Object")] 113

def k0c0 : Code := { maxStack := 0, maxLocals := 1, code := object_method_1_code, exceptionTable := #[], attributes := #[] }
def k0m0 : Method := { name := "<init>", desc := "()V", sig := { parameters := [], returnType := none }, accessFlags := 1, code := some k0c0 }
/-- java/lang/Object -/
def k0 : Class := { plain "java/lang/Object" none with
  accessFlags := 33
  interfaces := #[]
  cf := some (fileOf pool0 8 #[] #[{ accessFlags := 1, nameIndex := 5, descriptorIndex := 6, attributes := #[] }] 33 0 #[] #[])
  fields := #[]
  methods := #[k0m0]
  instanceTypes := #[]
  staticTypes := #[]
  resolved := Array.replicate 124 none
  statics := none }

def pool1 : Array CpInfo := pool [(2, .class_ 4), (1, u "java/lang/Object"), (0, u "<init>"), (0, u "()V"), (0, .fieldref 8 9), (0, .class_ 10), (0, .nameAndType 11 12), (0, u "com/example/mailroom/mailroom/core/Delivery"), (0, u "FIFO"), (0, u "Lcom/example/mailroom/mailroom/core/Delivery;"), (0, .fieldref 8 14), (0, .nameAndType 15 12), (0, u "UNORDERED"), (0, .class_ 17), (0, u "com/example/mailroom/mailroom/core/Envelope"), (0, .class_ 19), (0, u "java/lang/String"), (0, .methodref 18 21), (0, .nameAndType 5 22), (0, u "([C)V"), (0, .methodref 24 25), (0, .class_ 26), (0, .nameAndType 27 28), (0, u "java/lang/Integer"), (0, u "valueOf"), (0, u "(I)Ljava/lang/Integer;"), (0, .methodref 16 30), (0, .nameAndType 5 31), (0, u "(Ljava/lang/String;Ljava/lang/String;ILjava/lang/Object;Ljava/lang/String;Z)V"), (0, .methodref 8 33), (0, .nameAndType 34 35), (0, u "holdsBack"), (0, u "(Lcom/example/mailroom/mailroom/core/Envelope;)Z"), (0, .class_ 37), (0, u "com/example/mailroom/mailroom/core/DeliveryHoldsBackPinLaw"), (2, u "law"), (0, u "(IIII)Z")] 5

def k1m0 : Method := { name := "<init>", desc := "()V", sig := { parameters := [], returnType := none }, accessFlags := 1, code := none }
def k1c1 : Code := { maxStack := 9, maxLocals := 11, code := code, exceptionTable := #[], attributes := #[] }
def k1m1 : Method := { name := "law", desc := "(IIII)Z", sig := { parameters := [.int, .int, .int, .int], returnType := some .boolean }, accessFlags := 9, code := some k1c1 }
/-- com/example/mailroom/mailroom/core/DeliveryHoldsBackPinLaw -/
def k1 : Class := { plain "com/example/mailroom/mailroom/core/DeliveryHoldsBackPinLaw" (some 0) with
  accessFlags := 49
  interfaces := #[]
  cf := some (fileOf pool1 36 #[] #[{ accessFlags := 1, nameIndex := 5, descriptorIndex := 6, attributes := #[] }, { accessFlags := 9, nameIndex := 40, descriptorIndex := 41, attributes := #[] }] 49 2 #[] #[])
  fields := #[]
  methods := #[k1m0, k1m1]
  instanceTypes := #[]
  staticTypes := #[]
  resolved := Array.replicate 47 none
  statics := none }

def pool2 : Array CpInfo := pool [(1, .class_ 2), (0, u "java/lang/constant/Constable"), (0, .class_ 4), (0, u "java/lang/Object")] 6

/-- java/lang/constant/Constable -/
def k2 : Class := { plain "java/lang/constant/Constable" (some 0) with
  accessFlags := 1537
  interfaces := #[]
  cf := some (fileOf pool2 1 #[] #[] 1537 3 #[] #[])
  fields := #[]
  methods := #[]
  instanceTypes := #[]
  staticTypes := #[]
  resolved := Array.replicate 11 none
  statics := none }

def pool3 : Array CpInfo := pool [(1, .class_ 2), (0, u "java/lang/Comparable"), (0, .class_ 4), (0, u "java/lang/Object")] 7

/-- java/lang/Comparable -/
def k3 : Class := { plain "java/lang/Comparable" (some 0) with
  accessFlags := 1537
  interfaces := #[]
  cf := some (fileOf pool3 1 #[] #[] 1537 3 #[] #[])
  fields := #[]
  methods := #[]
  instanceTypes := #[]
  staticTypes := #[]
  resolved := Array.replicate 12 none
  statics := none }

def pool4 : Array CpInfo := pool [(1, .class_ 2), (0, u "java/io/Serializable"), (0, .class_ 4), (0, u "java/lang/Object")] 2

/-- java/io/Serializable -/
def k4 : Class := { plain "java/io/Serializable" (some 0) with
  accessFlags := 1537
  interfaces := #[]
  cf := some (fileOf pool4 1 #[] #[] 1537 3 #[] #[])
  fields := #[]
  methods := #[]
  instanceTypes := #[]
  staticTypes := #[]
  resolved := Array.replicate 7 none
  statics := none }

def pool5 : Array CpInfo := pool [(2, .class_ 4), (1, u "java/lang/Enum"), (0, u "name"), (0, u "Ljava/lang/String;"), (2, u "ordinal"), (0, u "I"), (1, .class_ 14), (1, u "java/lang/Object"), (4, u "hash"), (86, .class_ 108), (1, u "java/lang/Enum$EnumDesc"), (2, .class_ 112), (0, u "java/lang/constant/Constable"), (0, .class_ 114), (0, u "java/lang/Comparable"), (0, .class_ 116), (0, u "java/io/Serializable")] 87

/-- java/lang/Enum -/
def k5 : Class := { plain "java/lang/Enum" (some 0) with
  accessFlags := 1057
  interfaces := #[2, 3, 4]
  cf := some (fileOf pool5 2 #[.nestMembers #[106]] #[] 1057 12 #[111, 113, 115] #[{ accessFlags := 18, nameIndex := 5, descriptorIndex := 6, attributes := #[] }, { accessFlags := 18, nameIndex := 9, descriptorIndex := 10, attributes := #[] }, { accessFlags := 2, nameIndex := 19, descriptorIndex := 10, attributes := #[] }])
  fields := #[{ name := "name", type := (.object "java/lang/String"), accessFlags := 18, slot := 0, constantValue := 0 }, { name := "ordinal", type := .int, accessFlags := 18, slot := 1, constantValue := 0 }, { name := "hash", type := .int, accessFlags := 2, slot := 2, constantValue := 0 }]
  methods := #[]
  instanceTypes := #[(.object "java/lang/String"), .int, .int]
  staticTypes := #[]
  resolved := Array.replicate 204 none
  statics := none }

def pool6 : Array CpInfo := pool [(1, .class_ 2), (0, u "com/example/mailroom/mailroom/core/Delivery"), (2, u "FIFO"), (0, u "Lcom/example/mailroom/mailroom/core/Delivery;"), (2, u "UNORDERED"), (2, u "$VALUES"), (0, u "[Lcom/example/mailroom/mailroom/core/Delivery;"), (6, .class_ 22), (1, u "java/lang/Enum"), (8, u "label"), (0, u "Ljava/lang/String;"), (0, .fieldref 1 34), (0, .nameAndType 35 36), (0, u "perPairOrder"), (0, u "Z"), (16, u "()Z"), (12, .class_ 67), (0, u "com/example/mailroom/mailroom/core/Envelope"), (8, .methodref 66 77), (0, .nameAndType 78 53), (0, u "scheduled"), (17, u "holdsBack"), (0, u "(Lcom/example/mailroom/mailroom/core/Envelope;)Z")] 31

def k6c0 : Code := { maxStack := 1, maxLocals := 2, code := prog_22_method_6_code, exceptionTable := #[], attributes := #[] }
def k6m0 : Method := { name := "holdsBack", desc := "(Lcom/example/mailroom/mailroom/core/Envelope;)Z", sig := { parameters := [(.object "com/example/mailroom/mailroom/core/Envelope")], returnType := some .boolean }, accessFlags := 0, code := some k6c0 }
/-- com/example/mailroom/mailroom/core/Delivery -/
def k6 : Class := { plain "com/example/mailroom/mailroom/core/Delivery" (some 5) with
  accessFlags := 16433
  interfaces := #[]
  cf := some (fileOf pool6 1 #[] #[{ accessFlags := 0, nameIndex := 96, descriptorIndex := 97, attributes := #[] }] 16433 20 #[] #[{ accessFlags := 16409, nameIndex := 5, descriptorIndex := 6, attributes := #[] }, { accessFlags := 16409, nameIndex := 9, descriptorIndex := 6, attributes := #[] }, { accessFlags := 18, nameIndex := 31, descriptorIndex := 32, attributes := #[] }, { accessFlags := 18, nameIndex := 35, descriptorIndex := 36, attributes := #[] }, { accessFlags := 4122, nameIndex := 12, descriptorIndex := 13, attributes := #[] }])
  fields := #[{ name := "FIFO", type := (.object "com/example/mailroom/mailroom/core/Delivery"), accessFlags := 16409, slot := 0, constantValue := 0 }, { name := "UNORDERED", type := (.object "com/example/mailroom/mailroom/core/Delivery"), accessFlags := 16409, slot := 1, constantValue := 0 }, { name := "label", type := (.object "java/lang/String"), accessFlags := 18, slot := 3, constantValue := 0 }, { name := "perPairOrder", type := .boolean, accessFlags := 18, slot := 4, constantValue := 0 }, { name := "$VALUES", type := (.array (.object "com/example/mailroom/mailroom/core/Delivery")), accessFlags := 4122, slot := 2, constantValue := 0 }]
  methods := #[k6m0]
  instanceTypes := #[(.object "java/lang/String"), .int, .int, (.object "java/lang/String"), .boolean]
  staticTypes := #[(.object "com/example/mailroom/mailroom/core/Delivery"), (.object "com/example/mailroom/mailroom/core/Delivery"), (.array (.object "com/example/mailroom/mailroom/core/Delivery"))]
  resolved := Array.replicate 129 none
  statics := some 0 }

def pool7 : Array CpInfo := pool [(1, .methodref 2 3), (0, .class_ 4), (0, .nameAndType 5 6), (0, u "java/lang/Object"), (0, u "<init>"), (0, u "()V"), (0, .class_ 8), (0, u "java/lang/Record")] 13

def k7c0 : Code := { maxStack := 1, maxLocals := 1, code := jdk_30_method_1_code, exceptionTable := #[], attributes := #[] }
def k7m0 : Method := { name := "<init>", desc := "()V", sig := { parameters := [], returnType := none }, accessFlags := 4, code := some k7c0 }
/-- java/lang/Record -/
def k7 : Class := { plain "java/lang/Record" (some 0) with
  accessFlags := 1057
  interfaces := #[]
  cf := some (fileOf pool7 7 #[] #[{ accessFlags := 4, nameIndex := 5, descriptorIndex := 6, attributes := #[] }] 1057 2 #[] #[])
  fields := #[]
  methods := #[k7m0]
  instanceTypes := #[]
  staticTypes := #[]
  resolved := Array.replicate 22 none
  statics := none }

def pool8 : Array CpInfo := pool [(1, .methodref 2 3), (0, .class_ 4), (0, .nameAndType 5 6), (0, u "java/lang/Record"), (0, u "<init>"), (0, u "()V"), (0, .string 8), (0, u "sender"), (0, .methodref 10 11), (0, .class_ 12), (0, .nameAndType 13 14), (0, u "java/util/Objects"), (0, u "requireNonNull"), (0, u "(Ljava/lang/Object;Ljava/lang/String;)Ljava/lang/Object;"), (0, .string 16), (0, u "receiver"), (0, .string 18), (0, u "message"), (0, .string 20), (0, u "replyTo"), (0, .fieldref 22 23), (0, .class_ 24), (0, .nameAndType 8 25), (0, u "com/example/mailroom/mailroom/core/Envelope"), (0, u "Ljava/lang/String;"), (0, .fieldref 22 27), (0, .nameAndType 16 25), (0, .fieldref 22 29), (0, .nameAndType 30 31), (0, u "number"), (0, u "I"), (0, .fieldref 22 33), (0, .nameAndType 18 34), (0, u "Ljava/lang/Object;"), (0, .fieldref 22 36), (0, .nameAndType 20 25), (0, .fieldref 22 38), (0, .nameAndType 39 40), (0, u "scheduled"), (0, u "Z"), (2, u "(Ljava/lang/String;Ljava/lang/String;ILjava/lang/Object;Ljava/lang/String;Z)V"), (40, u "()Z")] 25

def k8c0 : Code := { maxStack := 2, maxLocals := 7, code := prog_25_method_1_code, exceptionTable := #[], attributes := #[] }
def k8m0 : Method := { name := "<init>", desc := "(Ljava/lang/String;Ljava/lang/String;ILjava/lang/Object;Ljava/lang/String;Z)V", sig := { parameters := [(.object "java/lang/String"), (.object "java/lang/String"), .int, (.object "java/lang/Object"), (.object "java/lang/String"), .boolean], returnType := none }, accessFlags := 1, code := some k8c0 }
def k8c1 : Code := { maxStack := 1, maxLocals := 1, code := prog_25_method_13_code, exceptionTable := #[], attributes := #[] }
def k8m1 : Method := { name := "scheduled", desc := "()Z", sig := { parameters := [], returnType := some .boolean }, accessFlags := 1, code := some k8c1 }
/-- com/example/mailroom/mailroom/core/Envelope -/
def k8 : Class := { plain "com/example/mailroom/mailroom/core/Envelope" (some 7) with
  accessFlags := 49
  interfaces := #[]
  cf := some (fileOf pool8 22 #[] #[{ accessFlags := 1, nameIndex := 5, descriptorIndex := 43, attributes := #[] }, { accessFlags := 1, nameIndex := 39, descriptorIndex := 84, attributes := #[] }] 49 2 #[] #[{ accessFlags := 18, nameIndex := 8, descriptorIndex := 25, attributes := #[] }, { accessFlags := 18, nameIndex := 16, descriptorIndex := 25, attributes := #[] }, { accessFlags := 18, nameIndex := 30, descriptorIndex := 31, attributes := #[] }, { accessFlags := 18, nameIndex := 18, descriptorIndex := 34, attributes := #[] }, { accessFlags := 18, nameIndex := 20, descriptorIndex := 25, attributes := #[] }, { accessFlags := 18, nameIndex := 39, descriptorIndex := 40, attributes := #[] }])
  fields := #[{ name := "sender", type := (.object "java/lang/String"), accessFlags := 18, slot := 0, constantValue := 0 }, { name := "receiver", type := (.object "java/lang/String"), accessFlags := 18, slot := 1, constantValue := 0 }, { name := "number", type := .int, accessFlags := 18, slot := 2, constantValue := 0 }, { name := "message", type := (.object "java/lang/Object"), accessFlags := 18, slot := 3, constantValue := 0 }, { name := "replyTo", type := (.object "java/lang/String"), accessFlags := 18, slot := 4, constantValue := 0 }, { name := "scheduled", type := .boolean, accessFlags := 18, slot := 5, constantValue := 0 }]
  methods := #[k8m0, k8m1]
  instanceTypes := #[(.object "java/lang/String"), (.object "java/lang/String"), .int, (.object "java/lang/Object"), (.object "java/lang/String"), .boolean]
  staticTypes := #[]
  resolved := Array.replicate 110 none
  statics := none }

def pool9 : Array CpInfo := pool [(2, .class_ 4), (1, u "java/lang/CharSequence"), (42, .class_ 48), (0, u "java/lang/CharSequence$1CodePointIterator"), (10, .class_ 60), (0, u "java/lang/CharSequence$1CharIterator"), (5, .class_ 67), (0, u "java/lang/Object")] 63

/-- java/lang/CharSequence -/
def k9 : Class := { plain "java/lang/CharSequence" (some 0) with
  accessFlags := 1537
  interfaces := #[]
  cf := some (fileOf pool9 2 #[.nestMembers #[47, 59]] #[] 1537 66 #[] #[])
  fields := #[]
  methods := #[]
  instanceTypes := #[]
  staticTypes := #[]
  resolved := Array.replicate 131 none
  statics := none }

def pool10 : Array CpInfo := pool [(1, .class_ 2), (0, u "java/lang/constant/ConstantDesc"), (0, .class_ 4), (0, u "java/lang/Object")] 32

/-- java/lang/constant/ConstantDesc -/
def k10 : Class := { plain "java/lang/constant/ConstantDesc" (some 0) with
  accessFlags := 1537
  interfaces := #[]
  cf := some (fileOf pool10 1 #[] #[] 1537 3 #[] #[])
  fields := #[]
  methods := #[]
  instanceTypes := #[]
  staticTypes := #[]
  resolved := Array.replicate 37 none
  statics := none }

def pool11 : Array CpInfo := pool [(1, .methodref 2 3), (0, .class_ 4), (0, .nameAndType 5 6), (0, u "java/lang/Object"), (0, u "<init>"), (0, u "()V"), (2, .fieldref 10 11), (0, .class_ 12), (0, .nameAndType 13 14), (0, u "java/lang/String"), (0, u "value"), (0, u "[B"), (0, .fieldref 10 16), (0, .nameAndType 17 18), (0, u "coder"), (0, u "B"), (2, u "hash"), (0, u "I"), (2, u "hashIsZero"), (0, u "Z"), (0, .methodref 10 28), (0, .nameAndType 5 29), (0, u "([CIILjava/lang/Void;)V"), (8, .fieldref 10 39), (0, .nameAndType 40 26), (0, u "COMPACT_STRINGS"), (1, .class_ 44), (1, u "java/lang/StringUTF16"), (0, u "compress"), (1, .methodref 42 48), (0, .nameAndType 49 50), (0, u "coderFromArrayLen"), (0, u "([BI)B"), (126, .methodref 42 178), (0, .nameAndType 45 179), (0, u "([CII)[B"), (395, .class_ 576), (0, u "java/lang/CharSequence"), (22, u "CASE_INSENSITIVE_ORDER"), (0, u "Ljava/util/Comparator;"), (409, u "([C)V"), (90, u "serialPersistentFields"), (0, u "[Ljava/io/ObjectStreamField;"), (0, .class_ 1104), (0, u "java/lang/String$CaseInsensitiveComparator"), (1, .class_ 1107), (0, u "java/io/Serializable"), (0, .class_ 1109), (0, u "java/lang/Comparable"), (0, .class_ 1111), (0, u "java/lang/constant/Constable"), (0, .class_ 1113), (0, u "java/lang/constant/ConstantDesc"), (2, u "serialVersionUID"), (0, u "J"), (3, u "REPL"), (0, u "C"), (2, u "LATIN1"), (1, u "UTF16")] 323

def k11m0 : Method := { name := "<init>", desc := "()V", sig := { parameters := [], returnType := none }, accessFlags := 1, code := none }
def k11c1 : Code := { maxStack := 5, maxLocals := 2, code := jdk_42_method_3_code, exceptionTable := #[], attributes := #[] }
def k11m1 : Method := { name := "<init>", desc := "([C)V", sig := { parameters := [(.array .char)], returnType := none }, accessFlags := 1, code := some k11c1 }
def k11c2 : Code := { maxStack := 4, maxLocals := 6, code := jdk_42_method_149_code, exceptionTable := #[], attributes := #[] }
def k11m2 : Method := { name := "<init>", desc := "([CIILjava/lang/Void;)V", sig := { parameters := [(.array .char), .int, .int, (.object "java/lang/Void")], returnType := none }, accessFlags := 2, code := some k11c2 }
/-- java/lang/String -/
def k11 : Class := { plain "java/lang/String" (some 0) with
  accessFlags := 49
  interfaces := #[4, 3, 9, 2, 10]
  cf := some (fileOf pool11 10 #[.nestMembers #[1103]] #[{ accessFlags := 1, nameIndex := 5, descriptorIndex := 6, attributes := #[] }, { accessFlags := 1, nameIndex := 5, descriptorIndex := 1010, attributes := #[] }, { accessFlags := 2, nameIndex := 5, descriptorIndex := 29, attributes := #[] }] 49 2 #[1106, 1108, 575, 1110, 1112] #[{ accessFlags := 18, nameIndex := 13, descriptorIndex := 14, attributes := #[] }, { accessFlags := 18, nameIndex := 17, descriptorIndex := 18, attributes := #[] }, { accessFlags := 2, nameIndex := 21, descriptorIndex := 22, attributes := #[] }, { accessFlags := 2, nameIndex := 25, descriptorIndex := 26, attributes := #[] }, { accessFlags := 26, nameIndex := 1116, descriptorIndex := 1117, attributes := #[] }, { accessFlags := 24, nameIndex := 40, descriptorIndex := 26, attributes := #[] }, { accessFlags := 26, nameIndex := 1101, descriptorIndex := 1102, attributes := #[] }, { accessFlags := 26, nameIndex := 1121, descriptorIndex := 1122, attributes := #[] }, { accessFlags := 25, nameIndex := 599, descriptorIndex := 600, attributes := #[] }, { accessFlags := 24, nameIndex := 1125, descriptorIndex := 18, attributes := #[] }, { accessFlags := 24, nameIndex := 1127, descriptorIndex := 18, attributes := #[] }])
  fields := #[{ name := "value", type := (.array .byte), accessFlags := 18, slot := 0, constantValue := 0 }, { name := "coder", type := .byte, accessFlags := 18, slot := 1, constantValue := 0 }, { name := "hash", type := .int, accessFlags := 2, slot := 2, constantValue := 0 }, { name := "hashIsZero", type := .boolean, accessFlags := 2, slot := 3, constantValue := 0 }, { name := "serialVersionUID", type := .long, accessFlags := 26, slot := 0, constantValue := 0 }, { name := "COMPACT_STRINGS", type := .boolean, accessFlags := 24, slot := 1, constantValue := 0 }, { name := "serialPersistentFields", type := (.array (.object "java/io/ObjectStreamField")), accessFlags := 26, slot := 2, constantValue := 0 }, { name := "REPL", type := .char, accessFlags := 26, slot := 3, constantValue := 0 }, { name := "CASE_INSENSITIVE_ORDER", type := (.object "java/util/Comparator"), accessFlags := 25, slot := 4, constantValue := 0 }, { name := "LATIN1", type := .byte, accessFlags := 24, slot := 5, constantValue := 0 }, { name := "UTF16", type := .byte, accessFlags := 24, slot := 6, constantValue := 0 }]
  methods := #[k11m0, k11m1, k11m2]
  instanceTypes := #[(.array .byte), .byte, .int, .boolean]
  staticTypes := #[.long, .boolean, (.array (.object "java/io/ObjectStreamField")), .char, (.object "java/util/Comparator"), .byte, .byte]
  resolved := Array.replicate 1451 none
  statics := some 1 }

def pool12 : Array CpInfo := pool [(6, .class_ 8), (1, u "java/lang/Object"), (0, u "<init>"), (0, u "()V"), (1, .class_ 14), (1, u "java/lang/StringUTF16"), (31, u "$assertionsDisabled"), (0, u "Z"), (13, u "HI_BYTE_SHIFT"), (0, u "I"), (2, u "LO_BYTE_SHIFT"), (49, .methodref 12 116), (0, .nameAndType 117 118), (0, u "compress"), (0, u "([CI[BII)I"), (3, u "([CII)[B"), (138, u "coderFromArrayLen"), (0, u "([BI)B"), (106, .class_ 371), (1, u "java/lang/StringUTF16$LinesSpliterator"), (58, u "MAX_LENGTH"), (196, .class_ 628), (0, u "java/lang/StringUTF16$CodePointsSpliterator"), (0, .class_ 630), (0, u "java/lang/StringUTF16$CharsSpliterator")] 4

def k12m0 : Method := { name := "<init>", desc := "()V", sig := { parameters := [], returnType := none }, accessFlags := 0, code := none }
def k12c1 : Code := { maxStack := 2, maxLocals := 2, code := jdk_52_method_15_code, exceptionTable := #[], attributes := #[] }
def k12m1 : Method := { name := "coderFromArrayLen", desc := "([BI)B", sig := { parameters := [(.array .byte), .int], returnType := some .byte }, accessFlags := 8, code := some k12c1 }
def k12c2 : Code := { maxStack := 5, maxLocals := 6, code := jdk_52_method_16_code, exceptionTable := #[], attributes := #[] }
def k12m2 : Method := { name := "compress", desc := "([CII)[B", sig := { parameters := [(.array .char), .int, .int], returnType := some (.array .byte) }, accessFlags := 9, code := some k12c2 }
def k12c3 : Code := { maxStack := 3, maxLocals := 7, code := jdk_52_method_21_code, exceptionTable := #[], attributes := #[] }
def k12m3 : Method := { name := "compress", desc := "([CI[BII)I", sig := { parameters := [(.array .char), .int, (.array .byte), .int, .int], returnType := some .int }, accessFlags := 9, code := some k12c3 }
/-- java/lang/StringUTF16 -/
def k12 : Class := { plain "java/lang/StringUTF16" (some 0) with
  accessFlags := 48
  interfaces := #[]
  cf := some (fileOf pool12 12 #[.nestMembers #[627, 629, 369]] #[{ accessFlags := 0, nameIndex := 9, descriptorIndex := 10, attributes := #[] }, { accessFlags := 8, nameIndex := 261, descriptorIndex := 262, attributes := #[] }, { accessFlags := 9, nameIndex := 117, descriptorIndex := 122, attributes := #[] }, { accessFlags := 9, nameIndex := 117, descriptorIndex := 118, attributes := #[] }] 48 6 #[] #[{ accessFlags := 26, nameIndex := 61, descriptorIndex := 62, attributes := #[] }, { accessFlags := 26, nameIndex := 65, descriptorIndex := 62, attributes := #[] }, { accessFlags := 24, nameIndex := 430, descriptorIndex := 62, attributes := #[] }, { accessFlags := 4120, nameIndex := 46, descriptorIndex := 47, attributes := #[] }])
  fields := #[{ name := "HI_BYTE_SHIFT", type := .int, accessFlags := 26, slot := 0, constantValue := 0 }, { name := "LO_BYTE_SHIFT", type := .int, accessFlags := 26, slot := 1, constantValue := 0 }, { name := "MAX_LENGTH", type := .int, accessFlags := 24, slot := 2, constantValue := 0 }, { name := "$assertionsDisabled", type := .boolean, accessFlags := 4120, slot := 3, constantValue := 0 }]
  methods := #[k12m0, k12m1, k12m2, k12m3]
  instanceTypes := #[]
  staticTypes := #[.int, .int, .int, .boolean]
  resolved := Array.replicate 635 none
  statics := none }

def pool13 : Array CpInfo := pool [(1, .methodref 2 3), (0, .class_ 4), (0, .nameAndType 5 6), (0, u "java/lang/Object"), (0, u "<init>"), (0, u "()V"), (1, .class_ 10), (1, u "java/lang/Number"), (2, .class_ 14), (0, u "java/io/Serializable"), (0, u "serialVersionUID"), (0, u "J")] 20

def k13c0 : Code := { maxStack := 1, maxLocals := 1, code := jdk_18_method_1_code, exceptionTable := #[], attributes := #[] }
def k13m0 : Method := { name := "<init>", desc := "()V", sig := { parameters := [], returnType := none }, accessFlags := 1, code := some k13c0 }
/-- java/lang/Number -/
def k13 : Class := { plain "java/lang/Number" (some 0) with
  accessFlags := 1057
  interfaces := #[4]
  cf := some (fileOf pool13 8 #[] #[{ accessFlags := 1, nameIndex := 5, descriptorIndex := 6, attributes := #[] }] 1057 2 #[13] #[{ accessFlags := 26, nameIndex := 15, descriptorIndex := 16, attributes := #[] }])
  fields := #[{ name := "serialVersionUID", type := .long, accessFlags := 26, slot := 0, constantValue := 0 }]
  methods := #[k13m0]
  instanceTypes := #[]
  staticTypes := #[.long]
  resolved := Array.replicate 37 none
  statics := none }

def pool14 : Array CpInfo := pool [(1, .class_ 2), (0, u "java/lang/Integer"), (16, u "digits"), (0, u "[C"), (46, u "<init>"), (17, u "DigitOnes"), (0, u "[B"), (2, u "DigitTens"), (10, .nameAndType 67 101), (0, u "()V"), (85, u "valueOf"), (0, u "(I)Ljava/lang/Integer;"), (0, .class_ 190), (0, u "java/lang/Integer$IntegerCache"), (0, .fieldref 189 192), (0, .nameAndType 193 194), (0, u "high"), (0, u "I"), (0, .fieldref 189 196), (0, .nameAndType 197 198), (0, u "cache"), (0, u "[Ljava/lang/Integer;"), (0, .methodref 1 200), (0, .nameAndType 67 201), (0, u "(I)V"), (0, .methodref 203 100), (0, .class_ 204), (0, u "java/lang/Number"), (0, .fieldref 1 206), (0, .nameAndType 207 194), (0, u "value"), (94, u "TYPE"), (0, u "Ljava/lang/Class;"), (0, .class_ 305), (0, u "java/lang/Comparable"), (0, .class_ 307), (0, u "java/lang/constant/Constable"), (0, .class_ 309), (0, u "java/lang/constant/ConstantDesc"), (0, u "MIN_VALUE"), (1, u "MAX_VALUE"), (3, u "SIZE"), (1, u "BYTES"), (1, u "serialVersionUID"), (0, u "J")] 131

def k14c0 : Code := { maxStack := 3, maxLocals := 1, code := jdk_33_method_22_code, exceptionTable := #[], attributes := #[] }
def k14m0 : Method := { name := "valueOf", desc := "(I)Ljava/lang/Integer;", sig := { parameters := [.int], returnType := some (.object "java/lang/Integer") }, accessFlags := 9, code := some k14c0 }
def k14c1 : Code := { maxStack := 2, maxLocals := 2, code := jdk_33_method_23_code, exceptionTable := #[], attributes := #[] }
def k14m1 : Method := { name := "<init>", desc := "(I)V", sig := { parameters := [.int], returnType := none }, accessFlags := 1, code := some k14c1 }
/-- java/lang/Integer -/
def k14 : Class := { plain "java/lang/Integer" (some 13) with
  accessFlags := 49
  interfaces := #[3, 2, 10]
  cf := some (fileOf pool14 1 #[.nestMembers #[189]] #[{ accessFlags := 9, nameIndex := 187, descriptorIndex := 188, attributes := #[] }, { accessFlags := 1, nameIndex := 67, descriptorIndex := 201, attributes := #[] }] 49 203 #[304, 306, 308] #[{ accessFlags := 25, nameIndex := 310, descriptorIndex := 194, attributes := #[] }, { accessFlags := 25, nameIndex := 312, descriptorIndex := 194, attributes := #[] }, { accessFlags := 25, nameIndex := 302, descriptorIndex := 303, attributes := #[] }, { accessFlags := 24, nameIndex := 19, descriptorIndex := 20, attributes := #[] }, { accessFlags := 24, nameIndex := 89, descriptorIndex := 86, attributes := #[] }, { accessFlags := 24, nameIndex := 85, descriptorIndex := 86, attributes := #[] }, { accessFlags := 18, nameIndex := 207, descriptorIndex := 194, attributes := #[] }, { accessFlags := 25, nameIndex := 316, descriptorIndex := 194, attributes := #[] }, { accessFlags := 25, nameIndex := 318, descriptorIndex := 194, attributes := #[] }, { accessFlags := 26, nameIndex := 320, descriptorIndex := 321, attributes := #[] }])
  fields := #[{ name := "MIN_VALUE", type := .int, accessFlags := 25, slot := 0, constantValue := 0 }, { name := "MAX_VALUE", type := .int, accessFlags := 25, slot := 1, constantValue := 0 }, { name := "TYPE", type := (.object "java/lang/Class"), accessFlags := 25, slot := 2, constantValue := 0 }, { name := "digits", type := (.array .char), accessFlags := 24, slot := 3, constantValue := 0 }, { name := "DigitTens", type := (.array .byte), accessFlags := 24, slot := 4, constantValue := 0 }, { name := "DigitOnes", type := (.array .byte), accessFlags := 24, slot := 5, constantValue := 0 }, { name := "value", type := .int, accessFlags := 18, slot := 0, constantValue := 0 }, { name := "SIZE", type := .int, accessFlags := 25, slot := 6, constantValue := 0 }, { name := "BYTES", type := .int, accessFlags := 25, slot := 7, constantValue := 0 }, { name := "serialVersionUID", type := .long, accessFlags := 26, slot := 8, constantValue := 0 }]
  methods := #[k14m0, k14m1]
  instanceTypes := #[.int]
  staticTypes := #[.int, .int, (.object "java/lang/Class"), (.array .char), (.array .byte), (.array .byte), .int, .int, .long]
  resolved := Array.replicate 453 none
  statics := none }

def pool15 : Array CpInfo := pool [(2, .class_ 4), (1, u "java/lang/Object"), (0, u "<init>"), (0, u "()V"), (0, .class_ 8), (0, u "java/lang/Integer"), (7, .class_ 18), (1, u "java/lang/Integer$IntegerCache"), (0, u "$assertionsDisabled"), (0, u "Z"), (26, u "high"), (0, u "I"), (8, u "archivedCache"), (0, u "[Ljava/lang/Integer;"), (12, u "cache"), (0, u "low")] 27

def k15m0 : Method := { name := "<init>", desc := "()V", sig := { parameters := [], returnType := none }, accessFlags := 2, code := none }
/-- java/lang/Integer$IntegerCache -/
def k15 : Class := { plain "java/lang/Integer$IntegerCache" (some 0) with
  accessFlags := 48
  interfaces := #[]
  cf := some (fileOf pool15 16 #[.nestHost 7] #[{ accessFlags := 2, nameIndex := 5, descriptorIndex := 6, attributes := #[] }] 48 2 #[] #[{ accessFlags := 24, nameIndex := 72, descriptorIndex := 48, attributes := #[] }, { accessFlags := 24, nameIndex := 47, descriptorIndex := 48, attributes := #[] }, { accessFlags := 24, nameIndex := 71, descriptorIndex := 58, attributes := #[] }, { accessFlags := 8, nameIndex := 57, descriptorIndex := 58, attributes := #[] }, { accessFlags := 4120, nameIndex := 19, descriptorIndex := 20, attributes := #[] }])
  fields := #[{ name := "low", type := .int, accessFlags := 24, slot := 0, constantValue := 0 }, { name := "high", type := .int, accessFlags := 24, slot := 1, constantValue := 0 }, { name := "cache", type := (.array (.object "java/lang/Integer")), accessFlags := 24, slot := 2, constantValue := 0 }, { name := "archivedCache", type := (.array (.object "java/lang/Integer")), accessFlags := 8, slot := 3, constantValue := 0 }, { name := "$assertionsDisabled", type := .boolean, accessFlags := 4120, slot := 4, constantValue := 0 }]
  methods := #[k15m0]
  instanceTypes := #[]
  staticTypes := #[.int, .int, (.array (.object "java/lang/Integer")), (.array (.object "java/lang/Integer")), .boolean]
  resolved := Array.replicate 100 none
  statics := some 2 }

def pool16 : Array CpInfo := pool [(2, .class_ 4), (1, u "java/lang/Object"), (0, u "<init>"), (0, u "()V"), (35, .class_ 44), (1, u "java/util/Objects"), (0, u "requireNonNull"), (48, u "(Ljava/lang/Object;Ljava/lang/String;)Ljava/lang/Object;")] 89

def k16m0 : Method := { name := "<init>", desc := "()V", sig := { parameters := [], returnType := none }, accessFlags := 2, code := none }
def k16c1 : Code := { maxStack := 3, maxLocals := 2, code := jdk_31_method_11_code, exceptionTable := #[], attributes := #[] }
def k16m1 : Method := { name := "requireNonNull", desc := "(Ljava/lang/Object;Ljava/lang/String;)Ljava/lang/Object;", sig := { parameters := [(.object "java/lang/Object"), (.object "java/lang/String")], returnType := some (.object "java/lang/Object") }, accessFlags := 9, code := some k16c1 }
/-- java/util/Objects -/
def k16 : Class := { plain "java/util/Objects" (some 0) with
  accessFlags := 49
  interfaces := #[]
  cf := some (fileOf pool16 42 #[] #[{ accessFlags := 2, nameIndex := 5, descriptorIndex := 6, attributes := #[] }, { accessFlags := 9, nameIndex := 45, descriptorIndex := 94, attributes := #[] }] 49 2 #[] #[])
  fields := #[]
  methods := #[k16m0, k16m1]
  instanceTypes := #[]
  staticTypes := #[]
  resolved := Array.replicate 184 none
  statics := none }

def pool17 : Array CpInfo := pool [(4, .class_ 6), (1, u "java/lang/Object"), (0, u "<init>"), (0, u "()V"), (5, .class_ 16), (1, u "java/lang/StringLatin1"), (104, u "$assertionsDisabled"), (0, u "Z"), (98, .class_ 223), (1, u "java/lang/StringLatin1$LinesSpliterator"), (166, .class_ 391), (0, u "java/lang/StringLatin1$CharsSpliterator")] 3

def k17m0 : Method := { name := "<init>", desc := "()V", sig := { parameters := [], returnType := none }, accessFlags := 0, code := none }
/-- java/lang/StringLatin1 -/
def k17 : Class := { plain "java/lang/StringLatin1" (some 0) with
  accessFlags := 48
  interfaces := #[]
  cf := some (fileOf pool17 14 #[.nestMembers #[390, 221]] #[{ accessFlags := 0, nameIndex := 7, descriptorIndex := 8, attributes := #[] }] 48 4 #[] #[{ accessFlags := 4120, nameIndex := 121, descriptorIndex := 122, attributes := #[] }])
  fields := #[{ name := "$assertionsDisabled", type := .boolean, accessFlags := 4120, slot := 0, constantValue := 0 }]
  methods := #[k17m0]
  instanceTypes := #[]
  staticTypes := #[.boolean]
  resolved := Array.replicate 395 none
  statics := none }

def pool18 : Array CpInfo := pool [(2, .class_ 4), (1, u "java/lang/Object"), (0, u "<init>"), (0, u "()V"), (17, .class_ 26), (1, u "jdk/internal/util/Preconditions"), (28, .class_ 56), (0, u "jdk/internal/util/Preconditions$4"), (57, .class_ 115), (0, u "jdk/internal/util/Preconditions$1"), (7, u "SIOOBE_FORMATTER"), (0, u "Ljava/util/function/BiFunction;"), (0, .class_ 126), (0, u "jdk/internal/util/Preconditions$2"), (3, u "AIOOBE_FORMATTER"), (0, .class_ 132), (0, u "jdk/internal/util/Preconditions$3"), (3, u "IOOBE_FORMATTER")] 57

def k18m0 : Method := { name := "<init>", desc := "()V", sig := { parameters := [], returnType := none }, accessFlags := 1, code := none }
/-- jdk/internal/util/Preconditions -/
def k18 : Class := { plain "jdk/internal/util/Preconditions" (some 0) with
  accessFlags := 33
  interfaces := #[]
  cf := some (fileOf pool18 24 #[.nestMembers #[55, 131, 125, 114]] #[{ accessFlags := 1, nameIndex := 5, descriptorIndex := 6, attributes := #[] }] 33 2 #[] #[{ accessFlags := 25, nameIndex := 123, descriptorIndex := 124, attributes := #[] }, { accessFlags := 25, nameIndex := 130, descriptorIndex := 124, attributes := #[] }, { accessFlags := 25, nameIndex := 136, descriptorIndex := 124, attributes := #[] }])
  fields := #[{ name := "SIOOBE_FORMATTER", type := (.object "java/util/function/BiFunction"), accessFlags := 25, slot := 0, constantValue := 0 }, { name := "AIOOBE_FORMATTER", type := (.object "java/util/function/BiFunction"), accessFlags := 25, slot := 1, constantValue := 0 }, { name := "IOOBE_FORMATTER", type := (.object "java/util/function/BiFunction"), accessFlags := 25, slot := 2, constantValue := 0 }]
  methods := #[k18m0]
  instanceTypes := #[]
  staticTypes := #[(.object "java/util/function/BiFunction"), (.object "java/util/function/BiFunction"), (.object "java/util/function/BiFunction")]
  resolved := Array.replicate 194 none
  statics := some 3 }

def pool19 : Array CpInfo := pool [(9, u "<init>"), (6, .class_ 18), (1, u "java/lang/Object"), (0, u "()V"), (1, .class_ 23), (1, u "jdk/internal/util/ArraysSupport"), (0, u "LOG2_ARRAY_LONG_INDEX_SCALE"), (0, u "I"), (2, u "U"), (0, u "Ljdk/internal/misc/Unsafe;"), (8, u "BIG_ENDIAN"), (0, u "Z"), (8, u "LOG2_BYTE_BIT_SIZE"), (4, u "LOG2_ARRAY_INT_INDEX_SCALE"), (54, u "JLA"), (0, u "Ljdk/internal/access/JavaLangAccess;"), (11, u "LOG2_ARRAY_BOOLEAN_INDEX_SCALE"), (9, u "LOG2_ARRAY_BYTE_INDEX_SCALE"), (5, u "LOG2_ARRAY_CHAR_INDEX_SCALE"), (5, u "LOG2_ARRAY_SHORT_INDEX_SCALE"), (18, u "LOG2_ARRAY_FLOAT_INDEX_SCALE"), (24, u "LOG2_ARRAY_DOUBLE_INDEX_SCALE"), (89, u "T_BOOLEAN"), (2, u "T_CHAR"), (1, u "T_FLOAT"), (1, u "T_DOUBLE"), (1, u "T_BYTE"), (1, u "T_SHORT"), (1, u "T_INT"), (1, u "T_LONG"), (1, u "SOFT_MAX_ARRAY_LENGTH")] 83

def k19m0 : Method := { name := "<init>", desc := "()V", sig := { parameters := [], returnType := none }, accessFlags := 2, code := none }
/-- jdk/internal/util/ArraysSupport -/
def k19 : Class := { plain "jdk/internal/util/ArraysSupport" (some 0) with
  accessFlags := 33
  interfaces := #[]
  cf := some (fileOf pool19 21 #[] #[{ accessFlags := 2, nameIndex := 9, descriptorIndex := 19, attributes := #[] }] 33 16 #[] #[{ accessFlags := 24, nameIndex := 28, descriptorIndex := 29, attributes := #[] }, { accessFlags := 26, nameIndex := 38, descriptorIndex := 39, attributes := #[] }, { accessFlags := 25, nameIndex := 121, descriptorIndex := 25, attributes := #[] }, { accessFlags := 25, nameIndex := 131, descriptorIndex := 25, attributes := #[] }, { accessFlags := 25, nameIndex := 137, descriptorIndex := 25, attributes := #[] }, { accessFlags := 25, nameIndex := 143, descriptorIndex := 25, attributes := #[] }, { accessFlags := 25, nameIndex := 53, descriptorIndex := 25, attributes := #[] }, { accessFlags := 25, nameIndex := 24, descriptorIndex := 25, attributes := #[] }, { accessFlags := 25, nameIndex := 162, descriptorIndex := 25, attributes := #[] }, { accessFlags := 25, nameIndex := 187, descriptorIndex := 25, attributes := #[] }, { accessFlags := 26, nameIndex := 48, descriptorIndex := 25, attributes := #[] }, { accessFlags := 25, nameIndex := 277, descriptorIndex := 25, attributes := #[] }, { accessFlags := 25, nameIndex := 280, descriptorIndex := 25, attributes := #[] }, { accessFlags := 25, nameIndex := 282, descriptorIndex := 25, attributes := #[] }, { accessFlags := 25, nameIndex := 284, descriptorIndex := 25, attributes := #[] }, { accessFlags := 25, nameIndex := 286, descriptorIndex := 25, attributes := #[] }, { accessFlags := 25, nameIndex := 288, descriptorIndex := 25, attributes := #[] }, { accessFlags := 25, nameIndex := 290, descriptorIndex := 25, attributes := #[] }, { accessFlags := 25, nameIndex := 292, descriptorIndex := 25, attributes := #[] }, { accessFlags := 26, nameIndex := 108, descriptorIndex := 109, attributes := #[] }, { accessFlags := 25, nameIndex := 294, descriptorIndex := 25, attributes := #[] }])
  fields := #[{ name := "U", type := (.object "jdk/internal/misc/Unsafe"), accessFlags := 24, slot := 0, constantValue := 0 }, { name := "BIG_ENDIAN", type := .boolean, accessFlags := 26, slot := 1, constantValue := 0 }, { name := "LOG2_ARRAY_BOOLEAN_INDEX_SCALE", type := .int, accessFlags := 25, slot := 2, constantValue := 0 }, { name := "LOG2_ARRAY_BYTE_INDEX_SCALE", type := .int, accessFlags := 25, slot := 3, constantValue := 0 }, { name := "LOG2_ARRAY_CHAR_INDEX_SCALE", type := .int, accessFlags := 25, slot := 4, constantValue := 0 }, { name := "LOG2_ARRAY_SHORT_INDEX_SCALE", type := .int, accessFlags := 25, slot := 5, constantValue := 0 }, { name := "LOG2_ARRAY_INT_INDEX_SCALE", type := .int, accessFlags := 25, slot := 6, constantValue := 0 }, { name := "LOG2_ARRAY_LONG_INDEX_SCALE", type := .int, accessFlags := 25, slot := 7, constantValue := 0 }, { name := "LOG2_ARRAY_FLOAT_INDEX_SCALE", type := .int, accessFlags := 25, slot := 8, constantValue := 0 }, { name := "LOG2_ARRAY_DOUBLE_INDEX_SCALE", type := .int, accessFlags := 25, slot := 9, constantValue := 0 }, { name := "LOG2_BYTE_BIT_SIZE", type := .int, accessFlags := 26, slot := 10, constantValue := 0 }, { name := "T_BOOLEAN", type := .int, accessFlags := 25, slot := 11, constantValue := 0 }, { name := "T_CHAR", type := .int, accessFlags := 25, slot := 12, constantValue := 0 }, { name := "T_FLOAT", type := .int, accessFlags := 25, slot := 13, constantValue := 0 }, { name := "T_DOUBLE", type := .int, accessFlags := 25, slot := 14, constantValue := 0 }, { name := "T_BYTE", type := .int, accessFlags := 25, slot := 15, constantValue := 0 }, { name := "T_SHORT", type := .int, accessFlags := 25, slot := 16, constantValue := 0 }, { name := "T_INT", type := .int, accessFlags := 25, slot := 17, constantValue := 0 }, { name := "T_LONG", type := .int, accessFlags := 25, slot := 18, constantValue := 0 }, { name := "JLA", type := (.object "jdk/internal/access/JavaLangAccess"), accessFlags := 26, slot := 19, constantValue := 0 }, { name := "SOFT_MAX_ARRAY_LENGTH", type := .int, accessFlags := 25, slot := 20, constantValue := 0 }]
  methods := #[k19m0]
  instanceTypes := #[]
  staticTypes := #[(.object "jdk/internal/misc/Unsafe"), .boolean, .int, .int, .int, .int, .int, .int, .int, .int, .int, .int, .int, .int, .int, .int, .int, .int, .int, (.object "jdk/internal/access/JavaLangAccess"), .int]
  resolved := Array.replicate 378 none
  statics := none }

def pool20 : Array CpInfo := pool [(1, u "java/lang/Cloneable"), (0, .class_ 1), (0, u "java/lang/Object"), (0, .class_ 3)] 3

/-- java/lang/Cloneable -/
def k20 : Class := { plain "java/lang/Cloneable" (some 0) with
  accessFlags := 1537
  interfaces := #[]
  cf := some (fileOf pool20 2 #[] #[] 1537 4 #[] #[])
  fields := #[]
  methods := #[]
  instanceTypes := #[]
  staticTypes := #[]
  resolved := Array.replicate 8 none
  statics := none }

/-- the primitive byte -/
def k21 : Class := { plain "byte" none with kind := .primitive 'B', accessFlags := 0x411 }
/-- [B -/
def k22 : Class := { plain "[B" (some 0) with kind := .array 21 .byte, interfaces := #[20, 4], accessFlags := 1041 }

/-- the primitive char -/
def k23 : Class := { plain "char" none with kind := .primitive 'C', accessFlags := 0x411 }
/-- [C -/
def k24 : Class := { plain "[C" (some 0) with kind := .array 23 .char, interfaces := #[20, 4], accessFlags := 1041 }

/-- the primitive int -/
def k25 : Class := { plain "int" none with kind := .primitive 'I', accessFlags := 0x411 }
/-- [I -/
def k26 : Class := { plain "[I" (some 0) with kind := .array 25 .int, interfaces := #[20, 4], accessFlags := 1041 }

/-- [Ljava/lang/Integer; -/
def k27 : Class := { plain "[Ljava/lang/Integer;" (some 0) with kind := .array 14 (.object "java/lang/Integer"), interfaces := #[20, 4], accessFlags := 1041 }

def heap : Heap := #[{ cls := 6, slots := #[.ref 261, .ref 262, .null], vm := .statics 6 },
  { cls := 11, slots := #[.long 0, .int 1, .null, .int 0, .null, .int 0, .int 0], vm := .statics 11 },
  { cls := 15, slots := #[.int 0, .int 127, .ref 4, .null, .int 0], vm := .statics 15 },
  { cls := 18, slots := #[.null, .null, .null], vm := .statics 18 },
  { cls := 27, slots := #[.ref 5, .ref 6, .ref 7, .ref 8, .ref 9, .ref 10, .ref 11, .ref 12, .ref 13, .ref 14, .ref 15, .ref 16, .ref 17, .ref 18, .ref 19, .ref 20, .ref 21, .ref 22, .ref 23, .ref 24, .ref 25, .ref 26, .ref 27, .ref 28, .ref 29, .ref 30, .ref 31, .ref 32, .ref 33, .ref 34, .ref 35, .ref 36, .ref 37, .ref 38, .ref 39, .ref 40, .ref 41, .ref 42, .ref 43, .ref 44, .ref 45, .ref 46, .ref 47, .ref 48, .ref 49, .ref 50, .ref 51, .ref 52, .ref 53, .ref 54, .ref 55, .ref 56, .ref 57, .ref 58, .ref 59, .ref 60, .ref 61, .ref 62, .ref 63, .ref 64, .ref 65, .ref 66, .ref 67, .ref 68, .ref 69, .ref 70, .ref 71, .ref 72, .ref 73, .ref 74, .ref 75, .ref 76, .ref 77, .ref 78, .ref 79, .ref 80, .ref 81, .ref 82, .ref 83, .ref 84, .ref 85, .ref 86, .ref 87, .ref 88, .ref 89, .ref 90, .ref 91, .ref 92, .ref 93, .ref 94, .ref 95, .ref 96, .ref 97, .ref 98, .ref 99, .ref 100, .ref 101, .ref 102, .ref 103, .ref 104, .ref 105, .ref 106, .ref 107, .ref 108, .ref 109, .ref 110, .ref 111, .ref 112, .ref 113, .ref 114, .ref 115, .ref 116, .ref 117, .ref 118, .ref 119, .ref 120, .ref 121, .ref 122, .ref 123, .ref 124, .ref 125, .ref 126, .ref 127, .ref 128, .ref 129, .ref 130, .ref 131, .ref 132, .ref 133, .ref 134, .ref 135, .ref 136, .ref 137, .ref 138, .ref 139, .ref 140, .ref 141, .ref 142, .ref 143, .ref 144, .ref 145, .ref 146, .ref 147, .ref 148, .ref 149, .ref 150, .ref 151, .ref 152, .ref 153, .ref 154, .ref 155, .ref 156, .ref 157, .ref 158, .ref 159, .ref 160, .ref 161, .ref 162, .ref 163, .ref 164, .ref 165, .ref 166, .ref 167, .ref 168, .ref 169, .ref 170, .ref 171, .ref 172, .ref 173, .ref 174, .ref 175, .ref 176, .ref 177, .ref 178, .ref 179, .ref 180, .ref 181, .ref 182, .ref 183, .ref 184, .ref 185, .ref 186, .ref 187, .ref 188, .ref 189, .ref 190, .ref 191, .ref 192, .ref 193, .ref 194, .ref 195, .ref 196, .ref 197, .ref 198, .ref 199, .ref 200, .ref 201, .ref 202, .ref 203, .ref 204, .ref 205, .ref 206, .ref 207, .ref 208, .ref 209, .ref 210, .ref 211, .ref 212, .ref 213, .ref 214, .ref 215, .ref 216, .ref 217, .ref 218, .ref 219, .ref 220, .ref 221, .ref 222, .ref 223, .ref 224, .ref 225, .ref 226, .ref 227, .ref 228, .ref 229, .ref 230, .ref 231, .ref 232, .ref 233, .ref 234, .ref 235, .ref 236, .ref 237, .ref 238, .ref 239, .ref 240, .ref 241, .ref 242, .ref 243, .ref 244, .ref 245, .ref 246, .ref 247, .ref 248, .ref 249, .ref 250, .ref 251, .ref 252, .ref 253, .ref 254, .ref 255, .ref 256, .ref 257, .ref 258, .ref 259, .ref 260], vm := .none },
  { cls := 14, slots := #[.int (-128)], vm := .none },
  { cls := 14, slots := #[.int (-127)], vm := .none },
  { cls := 14, slots := #[.int (-126)], vm := .none },
  { cls := 14, slots := #[.int (-125)], vm := .none },
  { cls := 14, slots := #[.int (-124)], vm := .none },
  { cls := 14, slots := #[.int (-123)], vm := .none },
  { cls := 14, slots := #[.int (-122)], vm := .none },
  { cls := 14, slots := #[.int (-121)], vm := .none },
  { cls := 14, slots := #[.int (-120)], vm := .none },
  { cls := 14, slots := #[.int (-119)], vm := .none },
  { cls := 14, slots := #[.int (-118)], vm := .none },
  { cls := 14, slots := #[.int (-117)], vm := .none },
  { cls := 14, slots := #[.int (-116)], vm := .none },
  { cls := 14, slots := #[.int (-115)], vm := .none },
  { cls := 14, slots := #[.int (-114)], vm := .none },
  { cls := 14, slots := #[.int (-113)], vm := .none },
  { cls := 14, slots := #[.int (-112)], vm := .none },
  { cls := 14, slots := #[.int (-111)], vm := .none },
  { cls := 14, slots := #[.int (-110)], vm := .none },
  { cls := 14, slots := #[.int (-109)], vm := .none },
  { cls := 14, slots := #[.int (-108)], vm := .none },
  { cls := 14, slots := #[.int (-107)], vm := .none },
  { cls := 14, slots := #[.int (-106)], vm := .none },
  { cls := 14, slots := #[.int (-105)], vm := .none },
  { cls := 14, slots := #[.int (-104)], vm := .none },
  { cls := 14, slots := #[.int (-103)], vm := .none },
  { cls := 14, slots := #[.int (-102)], vm := .none },
  { cls := 14, slots := #[.int (-101)], vm := .none },
  { cls := 14, slots := #[.int (-100)], vm := .none },
  { cls := 14, slots := #[.int (-99)], vm := .none },
  { cls := 14, slots := #[.int (-98)], vm := .none },
  { cls := 14, slots := #[.int (-97)], vm := .none },
  { cls := 14, slots := #[.int (-96)], vm := .none },
  { cls := 14, slots := #[.int (-95)], vm := .none },
  { cls := 14, slots := #[.int (-94)], vm := .none },
  { cls := 14, slots := #[.int (-93)], vm := .none },
  { cls := 14, slots := #[.int (-92)], vm := .none },
  { cls := 14, slots := #[.int (-91)], vm := .none },
  { cls := 14, slots := #[.int (-90)], vm := .none },
  { cls := 14, slots := #[.int (-89)], vm := .none },
  { cls := 14, slots := #[.int (-88)], vm := .none },
  { cls := 14, slots := #[.int (-87)], vm := .none },
  { cls := 14, slots := #[.int (-86)], vm := .none },
  { cls := 14, slots := #[.int (-85)], vm := .none },
  { cls := 14, slots := #[.int (-84)], vm := .none },
  { cls := 14, slots := #[.int (-83)], vm := .none },
  { cls := 14, slots := #[.int (-82)], vm := .none },
  { cls := 14, slots := #[.int (-81)], vm := .none },
  { cls := 14, slots := #[.int (-80)], vm := .none },
  { cls := 14, slots := #[.int (-79)], vm := .none },
  { cls := 14, slots := #[.int (-78)], vm := .none },
  { cls := 14, slots := #[.int (-77)], vm := .none },
  { cls := 14, slots := #[.int (-76)], vm := .none },
  { cls := 14, slots := #[.int (-75)], vm := .none },
  { cls := 14, slots := #[.int (-74)], vm := .none },
  { cls := 14, slots := #[.int (-73)], vm := .none },
  { cls := 14, slots := #[.int (-72)], vm := .none },
  { cls := 14, slots := #[.int (-71)], vm := .none },
  { cls := 14, slots := #[.int (-70)], vm := .none },
  { cls := 14, slots := #[.int (-69)], vm := .none },
  { cls := 14, slots := #[.int (-68)], vm := .none },
  { cls := 14, slots := #[.int (-67)], vm := .none },
  { cls := 14, slots := #[.int (-66)], vm := .none },
  { cls := 14, slots := #[.int (-65)], vm := .none },
  { cls := 14, slots := #[.int (-64)], vm := .none },
  { cls := 14, slots := #[.int (-63)], vm := .none },
  { cls := 14, slots := #[.int (-62)], vm := .none },
  { cls := 14, slots := #[.int (-61)], vm := .none },
  { cls := 14, slots := #[.int (-60)], vm := .none },
  { cls := 14, slots := #[.int (-59)], vm := .none },
  { cls := 14, slots := #[.int (-58)], vm := .none },
  { cls := 14, slots := #[.int (-57)], vm := .none },
  { cls := 14, slots := #[.int (-56)], vm := .none },
  { cls := 14, slots := #[.int (-55)], vm := .none },
  { cls := 14, slots := #[.int (-54)], vm := .none },
  { cls := 14, slots := #[.int (-53)], vm := .none },
  { cls := 14, slots := #[.int (-52)], vm := .none },
  { cls := 14, slots := #[.int (-51)], vm := .none },
  { cls := 14, slots := #[.int (-50)], vm := .none },
  { cls := 14, slots := #[.int (-49)], vm := .none },
  { cls := 14, slots := #[.int (-48)], vm := .none },
  { cls := 14, slots := #[.int (-47)], vm := .none },
  { cls := 14, slots := #[.int (-46)], vm := .none },
  { cls := 14, slots := #[.int (-45)], vm := .none },
  { cls := 14, slots := #[.int (-44)], vm := .none },
  { cls := 14, slots := #[.int (-43)], vm := .none },
  { cls := 14, slots := #[.int (-42)], vm := .none },
  { cls := 14, slots := #[.int (-41)], vm := .none },
  { cls := 14, slots := #[.int (-40)], vm := .none },
  { cls := 14, slots := #[.int (-39)], vm := .none },
  { cls := 14, slots := #[.int (-38)], vm := .none },
  { cls := 14, slots := #[.int (-37)], vm := .none },
  { cls := 14, slots := #[.int (-36)], vm := .none },
  { cls := 14, slots := #[.int (-35)], vm := .none },
  { cls := 14, slots := #[.int (-34)], vm := .none },
  { cls := 14, slots := #[.int (-33)], vm := .none },
  { cls := 14, slots := #[.int (-32)], vm := .none },
  { cls := 14, slots := #[.int (-31)], vm := .none },
  { cls := 14, slots := #[.int (-30)], vm := .none },
  { cls := 14, slots := #[.int (-29)], vm := .none },
  { cls := 14, slots := #[.int (-28)], vm := .none },
  { cls := 14, slots := #[.int (-27)], vm := .none },
  { cls := 14, slots := #[.int (-26)], vm := .none },
  { cls := 14, slots := #[.int (-25)], vm := .none },
  { cls := 14, slots := #[.int (-24)], vm := .none },
  { cls := 14, slots := #[.int (-23)], vm := .none },
  { cls := 14, slots := #[.int (-22)], vm := .none },
  { cls := 14, slots := #[.int (-21)], vm := .none },
  { cls := 14, slots := #[.int (-20)], vm := .none },
  { cls := 14, slots := #[.int (-19)], vm := .none },
  { cls := 14, slots := #[.int (-18)], vm := .none },
  { cls := 14, slots := #[.int (-17)], vm := .none },
  { cls := 14, slots := #[.int (-16)], vm := .none },
  { cls := 14, slots := #[.int (-15)], vm := .none },
  { cls := 14, slots := #[.int (-14)], vm := .none },
  { cls := 14, slots := #[.int (-13)], vm := .none },
  { cls := 14, slots := #[.int (-12)], vm := .none },
  { cls := 14, slots := #[.int (-11)], vm := .none },
  { cls := 14, slots := #[.int (-10)], vm := .none },
  { cls := 14, slots := #[.int (-9)], vm := .none },
  { cls := 14, slots := #[.int (-8)], vm := .none },
  { cls := 14, slots := #[.int (-7)], vm := .none },
  { cls := 14, slots := #[.int (-6)], vm := .none },
  { cls := 14, slots := #[.int (-5)], vm := .none },
  { cls := 14, slots := #[.int (-4)], vm := .none },
  { cls := 14, slots := #[.int (-3)], vm := .none },
  { cls := 14, slots := #[.int (-2)], vm := .none },
  { cls := 14, slots := #[.int (-1)], vm := .none },
  { cls := 14, slots := #[.int (0)], vm := .none },
  { cls := 14, slots := #[.int (1)], vm := .none },
  { cls := 14, slots := #[.int (2)], vm := .none },
  { cls := 14, slots := #[.int (3)], vm := .none },
  { cls := 14, slots := #[.int (4)], vm := .none },
  { cls := 14, slots := #[.int (5)], vm := .none },
  { cls := 14, slots := #[.int (6)], vm := .none },
  { cls := 14, slots := #[.int (7)], vm := .none },
  { cls := 14, slots := #[.int (8)], vm := .none },
  { cls := 14, slots := #[.int (9)], vm := .none },
  { cls := 14, slots := #[.int (10)], vm := .none },
  { cls := 14, slots := #[.int (11)], vm := .none },
  { cls := 14, slots := #[.int (12)], vm := .none },
  { cls := 14, slots := #[.int (13)], vm := .none },
  { cls := 14, slots := #[.int (14)], vm := .none },
  { cls := 14, slots := #[.int (15)], vm := .none },
  { cls := 14, slots := #[.int (16)], vm := .none },
  { cls := 14, slots := #[.int (17)], vm := .none },
  { cls := 14, slots := #[.int (18)], vm := .none },
  { cls := 14, slots := #[.int (19)], vm := .none },
  { cls := 14, slots := #[.int (20)], vm := .none },
  { cls := 14, slots := #[.int (21)], vm := .none },
  { cls := 14, slots := #[.int (22)], vm := .none },
  { cls := 14, slots := #[.int (23)], vm := .none },
  { cls := 14, slots := #[.int (24)], vm := .none },
  { cls := 14, slots := #[.int (25)], vm := .none },
  { cls := 14, slots := #[.int (26)], vm := .none },
  { cls := 14, slots := #[.int (27)], vm := .none },
  { cls := 14, slots := #[.int (28)], vm := .none },
  { cls := 14, slots := #[.int (29)], vm := .none },
  { cls := 14, slots := #[.int (30)], vm := .none },
  { cls := 14, slots := #[.int (31)], vm := .none },
  { cls := 14, slots := #[.int (32)], vm := .none },
  { cls := 14, slots := #[.int (33)], vm := .none },
  { cls := 14, slots := #[.int (34)], vm := .none },
  { cls := 14, slots := #[.int (35)], vm := .none },
  { cls := 14, slots := #[.int (36)], vm := .none },
  { cls := 14, slots := #[.int (37)], vm := .none },
  { cls := 14, slots := #[.int (38)], vm := .none },
  { cls := 14, slots := #[.int (39)], vm := .none },
  { cls := 14, slots := #[.int (40)], vm := .none },
  { cls := 14, slots := #[.int (41)], vm := .none },
  { cls := 14, slots := #[.int (42)], vm := .none },
  { cls := 14, slots := #[.int (43)], vm := .none },
  { cls := 14, slots := #[.int (44)], vm := .none },
  { cls := 14, slots := #[.int (45)], vm := .none },
  { cls := 14, slots := #[.int (46)], vm := .none },
  { cls := 14, slots := #[.int (47)], vm := .none },
  { cls := 14, slots := #[.int (48)], vm := .none },
  { cls := 14, slots := #[.int (49)], vm := .none },
  { cls := 14, slots := #[.int (50)], vm := .none },
  { cls := 14, slots := #[.int (51)], vm := .none },
  { cls := 14, slots := #[.int (52)], vm := .none },
  { cls := 14, slots := #[.int (53)], vm := .none },
  { cls := 14, slots := #[.int (54)], vm := .none },
  { cls := 14, slots := #[.int (55)], vm := .none },
  { cls := 14, slots := #[.int (56)], vm := .none },
  { cls := 14, slots := #[.int (57)], vm := .none },
  { cls := 14, slots := #[.int (58)], vm := .none },
  { cls := 14, slots := #[.int (59)], vm := .none },
  { cls := 14, slots := #[.int (60)], vm := .none },
  { cls := 14, slots := #[.int (61)], vm := .none },
  { cls := 14, slots := #[.int (62)], vm := .none },
  { cls := 14, slots := #[.int (63)], vm := .none },
  { cls := 14, slots := #[.int (64)], vm := .none },
  { cls := 14, slots := #[.int (65)], vm := .none },
  { cls := 14, slots := #[.int (66)], vm := .none },
  { cls := 14, slots := #[.int (67)], vm := .none },
  { cls := 14, slots := #[.int (68)], vm := .none },
  { cls := 14, slots := #[.int (69)], vm := .none },
  { cls := 14, slots := #[.int (70)], vm := .none },
  { cls := 14, slots := #[.int (71)], vm := .none },
  { cls := 14, slots := #[.int (72)], vm := .none },
  { cls := 14, slots := #[.int (73)], vm := .none },
  { cls := 14, slots := #[.int (74)], vm := .none },
  { cls := 14, slots := #[.int (75)], vm := .none },
  { cls := 14, slots := #[.int (76)], vm := .none },
  { cls := 14, slots := #[.int (77)], vm := .none },
  { cls := 14, slots := #[.int (78)], vm := .none },
  { cls := 14, slots := #[.int (79)], vm := .none },
  { cls := 14, slots := #[.int (80)], vm := .none },
  { cls := 14, slots := #[.int (81)], vm := .none },
  { cls := 14, slots := #[.int (82)], vm := .none },
  { cls := 14, slots := #[.int (83)], vm := .none },
  { cls := 14, slots := #[.int (84)], vm := .none },
  { cls := 14, slots := #[.int (85)], vm := .none },
  { cls := 14, slots := #[.int (86)], vm := .none },
  { cls := 14, slots := #[.int (87)], vm := .none },
  { cls := 14, slots := #[.int (88)], vm := .none },
  { cls := 14, slots := #[.int (89)], vm := .none },
  { cls := 14, slots := #[.int (90)], vm := .none },
  { cls := 14, slots := #[.int (91)], vm := .none },
  { cls := 14, slots := #[.int (92)], vm := .none },
  { cls := 14, slots := #[.int (93)], vm := .none },
  { cls := 14, slots := #[.int (94)], vm := .none },
  { cls := 14, slots := #[.int (95)], vm := .none },
  { cls := 14, slots := #[.int (96)], vm := .none },
  { cls := 14, slots := #[.int (97)], vm := .none },
  { cls := 14, slots := #[.int (98)], vm := .none },
  { cls := 14, slots := #[.int (99)], vm := .none },
  { cls := 14, slots := #[.int (100)], vm := .none },
  { cls := 14, slots := #[.int (101)], vm := .none },
  { cls := 14, slots := #[.int (102)], vm := .none },
  { cls := 14, slots := #[.int (103)], vm := .none },
  { cls := 14, slots := #[.int (104)], vm := .none },
  { cls := 14, slots := #[.int (105)], vm := .none },
  { cls := 14, slots := #[.int (106)], vm := .none },
  { cls := 14, slots := #[.int (107)], vm := .none },
  { cls := 14, slots := #[.int (108)], vm := .none },
  { cls := 14, slots := #[.int (109)], vm := .none },
  { cls := 14, slots := #[.int (110)], vm := .none },
  { cls := 14, slots := #[.int (111)], vm := .none },
  { cls := 14, slots := #[.int (112)], vm := .none },
  { cls := 14, slots := #[.int (113)], vm := .none },
  { cls := 14, slots := #[.int (114)], vm := .none },
  { cls := 14, slots := #[.int (115)], vm := .none },
  { cls := 14, slots := #[.int (116)], vm := .none },
  { cls := 14, slots := #[.int (117)], vm := .none },
  { cls := 14, slots := #[.int (118)], vm := .none },
  { cls := 14, slots := #[.int (119)], vm := .none },
  { cls := 14, slots := #[.int (120)], vm := .none },
  { cls := 14, slots := #[.int (121)], vm := .none },
  { cls := 14, slots := #[.int (122)], vm := .none },
  { cls := 14, slots := #[.int (123)], vm := .none },
  { cls := 14, slots := #[.int (124)], vm := .none },
  { cls := 14, slots := #[.int (125)], vm := .none },
  { cls := 14, slots := #[.int (126)], vm := .none },
  { cls := 14, slots := #[.int (127)], vm := .none },
  { cls := 6, slots := #[.null, .int 0, .int 0, .null, .int 1], vm := .none },
  { cls := 6, slots := #[.null, .int 1, .int 0, .null, .int 0], vm := .none }]
def classes : Array Class := #[k0, k1, k2, k3, k4, k5, k6, k7, k8, k9, k10, k11, k12, k13, k14, k15, k16, k17, k18, k19, k20, k21, k22, k23, k24, k25, k26, k27]
def interned : List (Array UInt16 × Addr) := []
def slotsUsed : Nat := 540
def theMethod : MethodId := ⟨1, 1⟩
def args0 : Array Value := #[.int 5, .int 6, .int 7, .int 8]
def aboutOver (below : List Frame) : State where
  vm := { classes := classes, interned := interned.toArray }
  heap := heap
  slotsUsed := slotsUsed
  threads := #[{ frames := .invoking theMethod args0 :: below }]
def below0 : List Frame := [.native { method := ⟨0, 0⟩, args := #[] }]
def about1 : State := aboutOver below0
def p0 : Program := .bare "" "" ""
def e0 : Env := launch0.env 0 0 0
theorem w_frames : about1.frames = Frame.invoking theMethod args0 :: below0 := rfl
set_option maxRecDepth 65536 in
theorem w_args : argsFit about1.vm theMethod args0 = true := by decide +kernel
set_option maxRecDepth 65536 in
theorem w_heap : heapFits about1 = true := by decide +kernel
set_option maxRecDepth 65536 in
theorem w_runnable : about1.curStatus? = some .runnable := by decide +kernel
set_option maxRecDepth 65536 in
theorem w_alone : about1.alone = true := by decide +kernel
set_option maxRecDepth 65536 in
theorem w_named : about1.methodNamed? x = some theMethod := by decide +kernel
set_option maxRecDepth 65536 in
theorem w_hears : about1.hears theMethod below0 = true := by decide +kernel
set_option maxRecDepth 65536 in
theorem w_ripe : about1.ripe theMethod args0 below0 = true := by decide +kernel
theorem w_running : about1.status = .running := rfl
set_option maxRecDepth 65536 in
theorem w_room : about1.hasRoom e0.platform room_1 = true :=
  launch0.hasRoom_least _ room_1 (by decide +kernel) (by decide +kernel) (by decide +kernel) (by decide +kernel) (by decide +kernel) (by decide +kernel)
theorem allAtoms_all (ts : List Jvm.Cond) (a : Array Jvm.Value) (st : Jvm.State) : (allAtoms ts).before a st = ts.all (fun c => c.before a st) := by
  induction ts with
  | nil => rfl
  | cons c t ih =>
    show (Jvm.Cond.and c (allAtoms t)).before a st = _
    rw [Jvm.Cond.before_and, ih, List.all_cons]
def words1 : List Jvm.Cond := Jvm.Cond.code x code maxLocals ret :: tables_1
/-- a 'code' word, met by the world's own term for the bytes: nothing is compared byte by byte -/
theorem code_word {y : MethodName} {bytes : ByteArray} {mx : Nat} {rt : Option FieldType} {a : Array Value} {s : State} {m : MethodId} {meth : Method} {c : Code} (h1 : s.methodNamed? y = some m) (h2 : s.vm.method? m = some meth) (h3 : meth.code = some c) (h4 : c.code = bytes)
    (h5 : (c.maxLocals == mx && c.exceptionTable.isEmpty && decide (c.maxStack ≤ mostOperands) && decide (meth.sig.returnType = rt) && !meth.locks && decide (parseMethodDescriptor y.desc = some meth.sig)) = true) : (Jvm.Cond.code y bytes mx rt).before a s = true := by
  simp only [Bool.and_eq_true, beq_iff_eq, Bool.not_eq_true', decide_eq_true_eq] at h5
  obtain ⟨⟨⟨⟨⟨g1, g2⟩, g3⟩, g4⟩, g5⟩, g6⟩ := h5
  simp [Cond.before, Cond.holds, Cond.value, h1, h2, h3, h4, g1, g2, g3, g4, g5, g6]
def isCode : Jvm.Cond → Bool
  | .code _ _ _ _ => true
  | _ => false
theorem all_split {L : List Jvm.Cond} {P : Jvm.Cond → Bool} (h1 : L.all (fun c => isCode c || P c) = true) (h2 : ∀ c ∈ L.filter isCode, P c = true) : L.all P = true := by
  refine List.all_eq_true.mpr fun c hc => ?_
  have h := List.all_eq_true.mp h1 c hc
  rcases Bool.eq_false_or_eq_true (isCode c) with hi | hi
  · exact h2 c (List.mem_filter.mpr ⟨hc, hi⟩)
  · simpa [hi] using h
set_option maxRecDepth 65536 in
theorem w_c0 : (Jvm.Cond.code x code maxLocals ret).before args0 about1 = true := code_word (m := ⟨1, 1⟩) (meth := k1m1) (c := k1c1) (by decide +kernel) rfl rfl rfl (by decide +kernel)
set_option maxRecDepth 65536 in
theorem w_c1 : (Jvm.Cond.code ({ cls := "java/lang/String", name := "<init>", desc := "([C)V" } : Jvm.MethodName) jdk_42_method_3_code (2 : Nat) (Option.none : Option Jvm.ClassFile.FieldType)).before args0 about1 = true := code_word (m := ⟨11, 1⟩) (meth := k11m1) (c := k11c1) (by decide +kernel) rfl rfl rfl (by decide +kernel)
set_option maxRecDepth 65536 in
theorem w_c2 : (Jvm.Cond.code ({ cls := "java/lang/String", name := "<init>", desc := "([CIILjava/lang/Void;)V" } : Jvm.MethodName) jdk_42_method_149_code (6 : Nat) (Option.none : Option Jvm.ClassFile.FieldType)).before args0 about1 = true := code_word (m := ⟨11, 2⟩) (meth := k11m2) (c := k11c2) (by decide +kernel) rfl rfl rfl (by decide +kernel)
set_option maxRecDepth 65536 in
theorem w_c3 : (Jvm.Cond.code ({ cls := "java/lang/Object", name := "<init>", desc := "()V" } : Jvm.MethodName) object_method_1_code (1 : Nat) (Option.none : Option Jvm.ClassFile.FieldType)).before args0 about1 = true := code_word (m := ⟨0, 0⟩) (meth := k0m0) (c := k0c0) (by decide +kernel) rfl rfl rfl (by decide +kernel)
set_option maxRecDepth 65536 in
theorem w_c4 : (Jvm.Cond.code ({ cls := "java/lang/StringUTF16", name := "compress", desc := "([CII)[B" } : Jvm.MethodName) jdk_52_method_16_code (6 : Nat) (Option.some (Jvm.ClassFile.FieldType.array Jvm.ClassFile.FieldType.byte))).before args0 about1 = true := code_word (m := ⟨12, 2⟩) (meth := k12m2) (c := k12c2) (by decide +kernel) rfl rfl rfl (by decide +kernel)
set_option maxRecDepth 65536 in
theorem w_c5 : (Jvm.Cond.code ({ cls := "java/lang/StringUTF16", name := "compress", desc := "([CI[BII)I" } : Jvm.MethodName) jdk_52_method_21_code (7 : Nat) (Option.some Jvm.ClassFile.FieldType.int)).before args0 about1 = true := code_word (m := ⟨12, 3⟩) (meth := k12m3) (c := k12c3) (by decide +kernel) rfl rfl rfl (by decide +kernel)
set_option maxRecDepth 65536 in
theorem w_c6 : (Jvm.Cond.code ({ cls := "java/lang/StringUTF16", name := "coderFromArrayLen", desc := "([BI)B" } : Jvm.MethodName) jdk_52_method_15_code (2 : Nat) (Option.some Jvm.ClassFile.FieldType.byte)).before args0 about1 = true := code_word (m := ⟨12, 1⟩) (meth := k12m1) (c := k12c1) (by decide +kernel) rfl rfl rfl (by decide +kernel)
set_option maxRecDepth 65536 in
theorem w_c7 : (Jvm.Cond.code ({ cls := "java/lang/Integer", name := "valueOf", desc := "(I)Ljava/lang/Integer;" } : Jvm.MethodName) jdk_33_method_22_code (1 : Nat) (Option.some (Jvm.ClassFile.FieldType.object "java/lang/Integer"))).before args0 about1 = true := code_word (m := ⟨14, 0⟩) (meth := k14m0) (c := k14c0) (by decide +kernel) rfl rfl rfl (by decide +kernel)
set_option maxRecDepth 65536 in
theorem w_c8 : (Jvm.Cond.code ({ cls := "com/example/mailroom/mailroom/core/Envelope", name := "<init>", desc := "(Ljava/lang/String;Ljava/lang/String;ILjava/lang/Object;Ljava/lang/String;Z)V" } : Jvm.MethodName) prog_25_method_1_code (7 : Nat) (Option.none : Option Jvm.ClassFile.FieldType)).before args0 about1 = true := code_word (m := ⟨8, 0⟩) (meth := k8m0) (c := k8c0) (by decide +kernel) rfl rfl rfl (by decide +kernel)
set_option maxRecDepth 65536 in
theorem w_c9 : (Jvm.Cond.code ({ cls := "java/lang/Record", name := "<init>", desc := "()V" } : Jvm.MethodName) jdk_30_method_1_code (1 : Nat) (Option.none : Option Jvm.ClassFile.FieldType)).before args0 about1 = true := code_word (m := ⟨7, 0⟩) (meth := k7m0) (c := k7c0) (by decide +kernel) rfl rfl rfl (by decide +kernel)
set_option maxRecDepth 65536 in
theorem w_c10 : (Jvm.Cond.code ({ cls := "java/util/Objects", name := "requireNonNull", desc := "(Ljava/lang/Object;Ljava/lang/String;)Ljava/lang/Object;" } : Jvm.MethodName) jdk_31_method_11_code (2 : Nat) (Option.some (Jvm.ClassFile.FieldType.object "java/lang/Object"))).before args0 about1 = true := code_word (m := ⟨16, 1⟩) (meth := k16m1) (c := k16c1) (by decide +kernel) rfl rfl rfl (by decide +kernel)
set_option maxRecDepth 65536 in
theorem w_c11 : (Jvm.Cond.code ({ cls := "com/example/mailroom/mailroom/core/Delivery", name := "holdsBack", desc := "(Lcom/example/mailroom/mailroom/core/Envelope;)Z" } : Jvm.MethodName) prog_22_method_6_code (2 : Nat) (Option.some Jvm.ClassFile.FieldType.boolean)).before args0 about1 = true := code_word (m := ⟨6, 0⟩) (meth := k6m0) (c := k6c0) (by decide +kernel) rfl rfl rfl (by decide +kernel)
set_option maxRecDepth 65536 in
theorem w_c12 : (Jvm.Cond.code ({ cls := "com/example/mailroom/mailroom/core/Envelope", name := "scheduled", desc := "()Z" } : Jvm.MethodName) prog_25_method_13_code (1 : Nat) (Option.some Jvm.ClassFile.FieldType.boolean)).before args0 about1 = true := code_word (m := ⟨8, 1⟩) (meth := k8m1) (c := k8c1) (by decide +kernel) rfl rfl rfl (by decide +kernel)
set_option maxRecDepth 65536 in
theorem w_c13 : (Jvm.Cond.code ({ cls := "java/lang/Integer", name := "<init>", desc := "(I)V" } : Jvm.MethodName) jdk_33_method_23_code (2 : Nat) (Option.none : Option Jvm.ClassFile.FieldType)).before args0 about1 = true := code_word (m := ⟨14, 1⟩) (meth := k14m1) (c := k14c1) (by decide +kernel) rfl rfl rfl (by decide +kernel)
set_option maxRecDepth 65536 in
theorem w_c14 : (Jvm.Cond.code ({ cls := "java/lang/Number", name := "<init>", desc := "()V" } : Jvm.MethodName) jdk_18_method_1_code (1 : Nat) (Option.none : Option Jvm.ClassFile.FieldType)).before args0 about1 = true := code_word (m := ⟨13, 0⟩) (meth := k13m0) (c := k13c0) (by decide +kernel) rfl rfl rfl (by decide +kernel)
def codes1 : List Jvm.Cond := [Jvm.Cond.code x code maxLocals ret, Jvm.Cond.code ({ cls := "java/lang/String", name := "<init>", desc := "([C)V" } : Jvm.MethodName) jdk_42_method_3_code (2 : Nat) (Option.none : Option Jvm.ClassFile.FieldType), Jvm.Cond.code ({ cls := "java/lang/String", name := "<init>", desc := "([CIILjava/lang/Void;)V" } : Jvm.MethodName) jdk_42_method_149_code (6 : Nat) (Option.none : Option Jvm.ClassFile.FieldType), Jvm.Cond.code ({ cls := "java/lang/Object", name := "<init>", desc := "()V" } : Jvm.MethodName) object_method_1_code (1 : Nat) (Option.none : Option Jvm.ClassFile.FieldType), Jvm.Cond.code ({ cls := "java/lang/StringUTF16", name := "compress", desc := "([CII)[B" } : Jvm.MethodName) jdk_52_method_16_code (6 : Nat) (Option.some (Jvm.ClassFile.FieldType.array Jvm.ClassFile.FieldType.byte)), Jvm.Cond.code ({ cls := "java/lang/StringUTF16", name := "compress", desc := "([CI[BII)I" } : Jvm.MethodName) jdk_52_method_21_code (7 : Nat) (Option.some Jvm.ClassFile.FieldType.int), Jvm.Cond.code ({ cls := "java/lang/StringUTF16", name := "coderFromArrayLen", desc := "([BI)B" } : Jvm.MethodName) jdk_52_method_15_code (2 : Nat) (Option.some Jvm.ClassFile.FieldType.byte), Jvm.Cond.code ({ cls := "java/lang/Integer", name := "valueOf", desc := "(I)Ljava/lang/Integer;" } : Jvm.MethodName) jdk_33_method_22_code (1 : Nat) (Option.some (Jvm.ClassFile.FieldType.object "java/lang/Integer")), Jvm.Cond.code ({ cls := "com/example/mailroom/mailroom/core/Envelope", name := "<init>", desc := "(Ljava/lang/String;Ljava/lang/String;ILjava/lang/Object;Ljava/lang/String;Z)V" } : Jvm.MethodName) prog_25_method_1_code (7 : Nat) (Option.none : Option Jvm.ClassFile.FieldType), Jvm.Cond.code ({ cls := "java/lang/Record", name := "<init>", desc := "()V" } : Jvm.MethodName) jdk_30_method_1_code (1 : Nat) (Option.none : Option Jvm.ClassFile.FieldType), Jvm.Cond.code ({ cls := "java/util/Objects", name := "requireNonNull", desc := "(Ljava/lang/Object;Ljava/lang/String;)Ljava/lang/Object;" } : Jvm.MethodName) jdk_31_method_11_code (2 : Nat) (Option.some (Jvm.ClassFile.FieldType.object "java/lang/Object")), Jvm.Cond.code ({ cls := "com/example/mailroom/mailroom/core/Delivery", name := "holdsBack", desc := "(Lcom/example/mailroom/mailroom/core/Envelope;)Z" } : Jvm.MethodName) prog_22_method_6_code (2 : Nat) (Option.some Jvm.ClassFile.FieldType.boolean), Jvm.Cond.code ({ cls := "com/example/mailroom/mailroom/core/Envelope", name := "scheduled", desc := "()Z" } : Jvm.MethodName) prog_25_method_13_code (1 : Nat) (Option.some Jvm.ClassFile.FieldType.boolean), Jvm.Cond.code ({ cls := "java/lang/Integer", name := "<init>", desc := "(I)V" } : Jvm.MethodName) jdk_33_method_23_code (2 : Nat) (Option.none : Option Jvm.ClassFile.FieldType), Jvm.Cond.code ({ cls := "java/lang/Number", name := "<init>", desc := "()V" } : Jvm.MethodName) jdk_18_method_1_code (1 : Nat) (Option.none : Option Jvm.ClassFile.FieldType)]
set_option maxRecDepth 65536 in
theorem codes_eq : words1.filter isCode = codes1 := rfl
theorem w_codes : ∀ c ∈ words1.filter isCode, c.before args0 about1 = true := by
  rw [codes_eq]
  intro c hc
  simp only [codes1, List.mem_cons, List.not_mem_nil, or_false] at hc
  rcases hc with rfl | rfl | rfl | rfl | rfl | rfl | rfl | rfl | rfl | rfl | rfl | rfl | rfl | rfl | rfl
  · exact w_c0
  · exact w_c1
  · exact w_c2
  · exact w_c3
  · exact w_c4
  · exact w_c5
  · exact w_c6
  · exact w_c7
  · exact w_c8
  · exact w_c9
  · exact w_c10
  · exact w_c11
  · exact w_c12
  · exact w_c13
  · exact w_c14
set_option maxRecDepth 65536 in
theorem w_t1 : (words1.take 24).all (fun c => isCode c || c.before args0 about1) = true := by decide +kernel
set_option maxRecDepth 65536 in
theorem w_t2 : ((words1.drop 24).take 24).all (fun c => isCode c || c.before args0 about1) = true := by decide +kernel
set_option maxRecDepth 65536 in
theorem w_t3 : (((words1.drop 24).drop 24).take 24).all (fun c => isCode c || c.before args0 about1) = true := by decide +kernel
set_option maxRecDepth 65536 in
theorem w_t4 : ((((words1.drop 24).drop 24).drop 24).take 24).all (fun c => isCode c || c.before args0 about1) = true := by decide +kernel
set_option maxRecDepth 65536 in
theorem w_t5 : ((((words1.drop 24).drop 24).drop 24).drop 24).all (fun c => isCode c || c.before args0 about1) = true := by decide +kernel
theorem w_tables : (allAtoms (Jvm.Cond.code x code maxLocals ret :: tables_1)).before args0 about1 = true := by
  rw [allAtoms_all]
  show words1.all (fun c => c.before args0 about1) = true
  refine all_split ?_ w_codes
  rw [← List.take_append_drop 24 words1, List.all_append, w_t1, ← List.take_append_drop 24 (words1.drop 24), List.all_append, w_t2, ← List.take_append_drop 24 ((words1.drop 24).drop 24), List.all_append, w_t3, ← List.take_append_drop 24 (((words1.drop 24).drop 24).drop 24), List.all_append, w_t4, w_t5]
  rfl
set_option maxRecDepth 65536 in
theorem w_rest : rest_1_c.before args0 about1 = true := by decide +kernel
set_option maxRecDepth 65536 in
theorem w_case : (Jvm.Cond.and given_1 narrow_1).before args0 about1 = true := by decide +kernel
theorem w_applies : (headSpec (Jvm.Cond.code x code maxLocals ret :: tables_1) room_1).applies x e0.platform about1 = true :=
  (Spec.applies_iff w_frames).mpr ⟨w_running, w_runnable, w_alone, w_named, w_hears, w_ripe, w_room, w_tables⟩
theorem atStart : AtStart classFile x code maxLocals ret World_1 tables_1 room_1 Calls_1 rest_1 Pre_1 launch0 p0 e0 about1 theMethod args0 below0 :=
  ⟨lists_1, trivial, launch0.admits_env _ _ _, launch0.least_env, fairChoices_fair.cas, fairChoices_fair.clock, w_frames, w_args, w_heap, w_applies, trivial, w_rest, w_case⟩
end start1
theorem witness_1 : WitnessClaimed_1 := ⟨start1.p0, start1.e0, start1.about1, start1.theMethod, start1.args0, start1.below0, start1.atStart⟩
end Jvm.Pilot.@@N@@
