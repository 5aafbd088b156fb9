import JvmDerived
import JvmDerived.Pilot.@@N@@Statement
import JvmDerived.Pilot.@@N@@Code
set_option linter.unusedVariables false
set_option linter.unusedSimpArgs false
namespace Jvm.Pilot.@@N@@
open Jvm Jvm.ClassFile Sem Op Lib Jvm.Free Jvm.Stand Jvm.LawKit Jvm.RoadKit Bundle Jvm.Pilot.@@N@@.Jvm.D

/-! ## own kit: a walk as a tree -/
section OwnKit
variable {p : Program} {l : Launch} {e : Env} {R : Room} {s : State} {m : MethodId} {args : Array Value} {below : List Frame} {meth : Method} {c : Code} {T T' : State} {locs : List Loc} {cells slots : Nat} {Q : Option Value → Heap → List Loc → Prop} {f f' : JFrame} {Z : State} {a0 : Array Value} {h h' : Heap}
/-- from here the body comes to its return, and Q holds there -/
def Go (p : Program) (e : Env) (s : State) (below : List Frame) (R : Room) (Q : Option Value → Heap → List Loc → Prop) (T : State) (f : JFrame) : Prop :=
  ∃ s₂ o, Steps p.tables e below (T.setTop f) s₂ ∧ s₂.status = .running ∧ Ended s₂ below o ∧ ∃ v L, o = .returned v ∧ Q v s₂.heap L ∧ FrameEnd s o s₂ L R.cells R.slots
theorem Go.of (k : ∀ t, Steps p.tables e below (T'.setTop f') t → Steps p.tables e below (T.setTop f) t) (G : Go p e s below R Q T' f') : Go p e s below R Q T f := by
  obtain ⟨s2, o, h1, h2⟩ := G
  exact ⟨s2, o, k _ h1, h2⟩
theorem Go.cast (q : f = f') (G : Go p e s below R Q T f') : Go p e s below R Q T f := q ▸ G
theorem Go.retO (X : Stand p l e R s m args below meth c T locs cells slots) (hx : p.tables.exec = Jvm.exec) (hlk : meth.locks = false) {pc : Nat} {Ls : Array Slot} {w : Value} {t : FieldType} {i : Instr} {rest : List Value} (hret : meth.sig.returnType = some t) (hn : narrow t w = w)
    (hi : (i = .ireturn ∧ (t = .int ∨ t = .boolean ∨ t = .byte ∨ t = .char ∨ t = .short) ∧ ∃ z, w = .int z) ∨ (i = .lreturn ∧ t = .long ∧ ∃ z, w = .long z) ∨ (i = .dreturn ∧ t = .double ∧ ∃ z, w = .double z) ∨ (i = .freturn ∧ t = .float ∧ ∃ z, w = .float z) ∨ (i = .areturn ∧ t.isReference = true ∧ w.isRef = true))
    (hd : decode c.code pc = .ok (i, 1)) (hc : cells ≤ R.cells) (hs : slots ≤ R.slots) (hq : Q (some w) T.heap locs) : Go p e s below R Q T (mkF m pc Ls (w :: rest)) := by
  obtain ⟨fs, hr, hrun, hended, hW, hsame⟩ := X.leave (v := some w) (fun h => by rw [hret] at h; cases h) hlk
  exact ⟨_, _, retOut X hx hret hn hi hd hr, hrun, hended, _, _, rfl, hq, ⟨_, rfl⟩, hW, hsame.mono hc hs⟩
theorem Go.retI (X : Stand p l e R s m args below meth c T locs cells slots) (hx : p.tables.exec = Jvm.exec) (hlk : meth.locks = false) (hret : meth.sig.returnType = some .int) {pc : Nat} {Ls : Array Slot} {z : Int32} {rest : List Value}
    (hd : decode c.code pc = .ok (.ireturn, 1)) (hc : cells ≤ R.cells) (hs : slots ≤ R.slots) (hq : Q (some (.int z)) T.heap locs) : Go p e s below R Q T (mkF m pc Ls (.int z :: rest)) :=
  Go.retO X hx hlk hret rfl (Or.inl ⟨rfl, Or.inl rfl, _, rfl⟩) hd hc hs hq
theorem Go.retJ (X : Stand p l e R s m args below meth c T locs cells slots) (hx : p.tables.exec = Jvm.exec) (hlk : meth.locks = false) (hret : meth.sig.returnType = some .long) {pc : Nat} {Ls : Array Slot} {z : Int64} {rest : List Value}
    (hd : decode c.code pc = .ok (.lreturn, 1)) (hc : cells ≤ R.cells) (hs : slots ≤ R.slots) (hq : Q (some (.long z)) T.heap locs) : Go p e s below R Q T (mkF m pc Ls (.long z :: rest)) :=
  Go.retO X hx hlk hret rfl (Or.inr (Or.inl ⟨rfl, rfl, _, rfl⟩)) hd hc hs hq
theorem Go.retD (X : Stand p l e R s m args below meth c T locs cells slots) (hx : p.tables.exec = Jvm.exec) (hlk : meth.locks = false) (hret : meth.sig.returnType = some .double) {pc : Nat} {Ls : Array Slot} {z : UInt64} {rest : List Value}
    (hd : decode c.code pc = .ok (.dreturn, 1)) (hc : cells ≤ R.cells) (hs : slots ≤ R.slots) (hq : Q (some (.double z)) T.heap locs) : Go p e s below R Q T (mkF m pc Ls (.double z :: rest)) :=
  Go.retO X hx hlk hret rfl (Or.inr (Or.inr (Or.inl ⟨rfl, rfl, _, rfl⟩))) hd hc hs hq
theorem Go.retA (X : Stand p l e R s m args below meth c T locs cells slots) (hx : p.tables.exec = Jvm.exec) (hlk : meth.locks = false) {t : FieldType} (hret : meth.sig.returnType = some t) (ht : t.isReference = true) {pc : Nat} {Ls : Array Slot} {w : Value} {rest : List Value}
    (hw : w.isRef = true) (hd : decode c.code pc = .ok (.areturn, 1)) (hc : cells ≤ R.cells) (hs : slots ≤ R.slots) (hq : Q (some w) T.heap locs) : Go p e s below R Q T (mkF m pc Ls (w :: rest)) :=
  Go.retO X hx hlk hret (by cases t <;> first | (cases ht; done) | rfl) (Or.inr (Or.inr (Or.inr (Or.inr ⟨rfl, ht, hw⟩)))) hd hc hs hq
theorem Go.retB (X : Stand p l e R s m args below meth c T locs cells slots) (hx : p.tables.exec = Jvm.exec) (hlk : meth.locks = false) {t : FieldType} (hret : meth.sig.returnType = some t) (ht : t = .boolean ∨ t = .byte ∨ t = .char ∨ t = .short) {pc : Nat} {Ls : Array Slot} {z : Int32} {rest : List Value}
    (hd : decode c.code pc = .ok (.ireturn, 1)) (hc : cells ≤ R.cells) (hs : slots ≤ R.slots) {z' : Int32} (hz : nar t z = z') (hq : Q (some (.int z')) T.heap locs) : Go p e s below R Q T (mkF m pc Ls (.int z :: rest)) := by
  subst hz
  obtain ⟨fs, hr, hrun, hended, hW, hsame⟩ := X.leave (v := some (.int (nar t z))) (fun h => by rw [hret] at h; cases h) hlk
  exact ⟨_, _, retN X hx hret ht hd hr, hrun, hended, _, _, rfl, hq, ⟨_, rfl⟩, hW, hsame.mono hc hs⟩
theorem Go.retV (X : Stand p l e R s m args below meth c T locs cells slots) (hx : p.tables.exec = Jvm.exec) (hlk : meth.locks = false) (hret : meth.sig.returnType = none) {pc : Nat} {Ls : Array Slot}
    (hd : decode c.code pc = .ok (.return_, 1)) (hc : cells ≤ R.cells) (hs : slots ≤ R.slots) (hq : Q none T.heap locs) : Go p e s below R Q T (mkF m pc Ls []) := by
  obtain ⟨fs, hr, hrun, hended, hW, hsame⟩ := X.leave (v := none) (fun _ => rfl) hlk
  exact ⟨_, _, X.returnOut hx hret hd hr, hrun, hended, _, _, rfl, hq, ⟨_, rfl⟩, hW, hsame.mono hc hs⟩
/-- a body's contract: handed as', over the heap h, it returns and Q holds -/
def Ok (l : Launch) (Z : State) (y : MethodName) (bytes : ByteArray) (maxL : Nat) (ret : Option FieldType) (rm : Room) (as' : Array Value) (h : Heap) (Q : Option Value → Heap → List Loc → Prop) : Prop :=
  ∀ ws : List Jvm.Cond, MetFree l y (head1 (Jvm.Cond.code y bytes maxL ret :: ws) rm) (fun a U => a = as' ∧ Z.Warmed39 U.vm ∧ U.heap = h) (fun _ _ _ _ _ => True) (fun _ U o U' => ∃ v L, o = .returned v ∧ Q v U'.heap L ∧ FrameEnd U o U' L rm.cells rm.slots)
theorem Ok.mk {y : MethodName} {bytes : ByteArray} {maxL : Nat} {ret : Option FieldType} {rm : Room} {as' : Array Value} (hn : plainFor y = true)
    (k : ∀ p e s m below meth c s₁, p.tables.exec = Jvm.exec → c.code = bytes → c.maxLocals = maxL → s.vm.findClass y.cls = some m.cls → meth.name = y.name → meth.sig.returnType = ret → meth.locks = false → Z.Warmed39 s.vm → s₁.heap = h → Stand p l e rm s m as' below meth c s₁ [] 0 0 → Go p e s below rm Q s₁ (entryFrame m as' maxL)) :
    Ok l Z y bytes maxL ret rm as' h Q := by
  intro ws
  refine MetFree.of_bodySF hn hisR ?_
  intro p e s m args below meth c s₁ Bd hml0 hP hK
  obtain ⟨rfl, hZ, hh⟩ := hP
  exact k p e s m below meth c s₁ Bd.exec Bd.bytes hml0 (findClass_of_methodNamed Bd.named) (name_of_methodNamed Bd.named Bd.method).1 Bd.returns Bd.notSynchronized hZ (by rw [← hh, Bd.state]; rfl) (Stand.of_body Bd)
theorem callSt (X : Stand p l e R s m args below meth c T locs cells slots) (hx : p.tables.exec = Jvm.exec) (hZ : Z.Warmed39 s.vm) {own : String} {index : Nat} {y : MethodName} {bytes : ByteArray} {maxL : Nat} {ret : Option FieldType} {rm : Room} {as' : Array Value}
    (hown : s.vm.findClass own = some m.cls) (w1 : (Jvm.Cond.methodLink own index y).before a0 Z = true) (w2 : (Jvm.Cond.static y).before a0 Z = true) (w3 : (Jvm.Cond.initialized y.cls).before a0 Z = true) (w4 : (Jvm.Cond.code y bytes maxL ret).before a0 Z = true)
    (hy : y.cls ≠ "java/lang/invoke/MethodHandle" ∧ y.cls ≠ "java/lang/invoke/VarHandle") (hM : Ok l Z y bytes maxL ret rm as' h Q) (eT : T.heap = h) {W : Nat} (hf : rm.frames + 1 ≤ R.frames) (hl : W + (maxL + 11) + rm.locals ≤ R.locals) (hc : cells + rm.cells ≤ R.cells) (hs : slots + rm.slots ≤ R.slots)
    {g : JFrame} (hg : g.method = m) (hsize : g.locals.size = c.maxLocals) {argsL rest : List Value} (hlen : ∀ sig, parseMethodDescriptor y.desc = some sig → argsL.length = sig.parameters.length) (has : argsL.toArray = as')
    (hstack : g.stack = argsL.reverse ++ rest) (hW : 2 * g.monitorRoom + (rest.map fun v => v.category).sum ≤ W) (hd : decode c.code g.pc = .ok (.invokestatic index, 3)) :
    ∃ T' v L, Stand p l e R s m args below meth c T' (locs ++ L) (cells + rm.cells) (slots + rm.slots) ∧ Q v T'.heap L ∧ ∀ t, Steps p.tables e below (T'.setTop { g with pc := g.pc + 3, stack := v.toList ++ rest }) t → Steps p.tables e below (T.setTop g) t := by
  subst has
  obtain ⟨v, _, ⟨T1, L1, k1, n1⟩, -, X1, ⟨Lc, hQ, l1, y1, z1⟩, st⟩ := Jvm.LawKit.callS X hx (y := y) hown (mvT hZ w1) (mvT hZ w2) (mvT hZ w3) (mvT hZ w4) hy (backOf (W := W) (hM []) hZ w4 w3 hf hl) hg hsize hlen hstack hW hd (fun _ _ => ⟨rfl, eT, hc, hs⟩)
  dsimp only [Pt.U, Pt.locs, Pt.cells, Pt.slots] at X1 l1 y1 z1 st hQ
  subst l1 y1 z1
  exact ⟨T1, v, Lc, X1, hQ, st⟩
theorem callNew (X : Stand p l e R s m args below meth c T locs cells slots) (hx : p.tables.exec = Jvm.exec) (hZ : Z.Warmed39 s.vm) {own : String} {index : Nat} {y : MethodName} {bytes : ByteArray} {maxL : Nat} {rm : Room} {as' : Array Value} (hy1 : y.name = "<init>")
    (hown : s.vm.findClass own = some m.cls) (w1 : (Jvm.Cond.methodLink own index y).before a0 Z = true) (w2 : (Jvm.Cond.instanceMethod y).before a0 Z = true) (w3 : (Jvm.Cond.initialized y.cls).before a0 Z = true) (w4 : (Jvm.Cond.code y bytes maxL none).before a0 Z = true)
    (hy : y.cls ≠ "java/lang/invoke/MethodHandle" ∧ y.cls ≠ "java/lang/invoke/VarHandle") (hM : Ok l Z y bytes maxL none rm as' h Q) (eT : T.heap = h) {W : Nat} (hf : rm.frames + 1 ≤ R.frames) (hl : W + (maxL + 11) + rm.locals ≤ R.locals) (hc : cells + rm.cells ≤ R.cells) (hs : slots + rm.slots ≤ R.slots)
    {g : JFrame} (hg : g.method = m) (hsize : g.locals.size = c.maxLocals) {a : Addr} {argsL rest : List Value} (hlen : ∀ sig, parseMethodDescriptor y.desc = some sig → argsL.length = sig.parameters.length) (has : (.ref a :: argsL).toArray = as')
    (hstack : g.stack = argsL.reverse ++ .ref a :: rest) (hW : 2 * g.monitorRoom + (rest.map fun v => v.category).sum ≤ W) (hd : decode c.code g.pc = .ok (.invokespecial index, 3)) :
    ∃ T' v L, Stand p l e R s m args below meth c T' (locs ++ L) (cells + rm.cells) (slots + rm.slots) ∧ Q v T'.heap L ∧ ∀ t, Steps p.tables e below (T'.setTop { g with pc := g.pc + 3, stack := v.toList ++ rest }) t → Steps p.tables e below (T.setTop g) t := by
  subst has
  obtain ⟨v, _, ⟨T1, L1, k1, n1⟩, -, X1, ⟨Lc, hQ, l1, y1, z1⟩, st⟩ := X.specialBack hx (y := y) hy1 hown (mvT hZ w1) (mvT hZ w2) (mvT hZ w4) hy (backOf (W := W) (hM []) hZ w4 w3 hf hl) hg hsize (Steps.refl _) (a := a) hlen hstack hW hd (fun _ _ => ⟨rfl, eT, hc, hs⟩)
  dsimp only [Pt.U, Pt.locs, Pt.cells, Pt.slots] at X1 l1 y1 z1 st hQ
  subst l1 y1 z1
  exact ⟨T1, v, Lc, X1, hQ, fun t k => st.trans k⟩
theorem callVi (X : Stand p l e R s m args below meth c T locs cells slots) (hx : p.tables.exec = Jvm.exec) (hZ : Z.Warmed39 s.vm) {own C : String} {index : Nat} {y z : MethodName} {bytes : ByteArray} {maxL : Nat} {ret : Option FieldType} {rm : Room} {as' : Array Value}
    (hown : s.vm.findClass own = some m.cls) (w1 : (Jvm.Cond.methodLink own index y).before a0 Z = true) (w2 : (Jvm.Cond.declares y).before a0 Z = true) (nf : NotFace s y) (w3 : (Jvm.Cond.selects C y z).before a0 Z = true) (w4 : (Jvm.Cond.instanceMethod z).before a0 Z = true) (w5 : (Jvm.Cond.code z bytes maxL ret).before a0 Z = true) (w6 : (Jvm.Cond.initialized z.cls).before a0 Z = true)
    (hy : y.cls ≠ "java/lang/invoke/MethodHandle" ∧ y.cls ≠ "java/lang/invoke/VarHandle") (hM : Ok l Z z bytes maxL ret rm as' h Q) (eT : T.heap = h) {W : Nat} (hf : rm.frames + 1 ≤ R.frames) (hl : W + (maxL + 11) + rm.locals ≤ R.locals) (hc : cells + rm.cells ≤ R.cells) (hs : slots + rm.slots ≤ R.slots)
    {a : Addr} (E : Exa Z h a C) {g : JFrame} (hg : g.method = m) (hsize : g.locals.size = c.maxLocals) {argsL rest : List Value} (hlen : ∀ sig, parseMethodDescriptor y.desc = some sig → argsL.length = sig.parameters.length) (has : (.ref a :: argsL).toArray = as')
    (hstack : g.stack = argsL.reverse ++ .ref a :: rest) (hW : 2 * g.monitorRoom + (rest.map fun v => v.category).sum ≤ W) (hd : decode c.code g.pc = .ok (.invokevirtual index, 3)) :
    ∃ T' v L, Stand p l e R s m args below meth c T' (locs ++ L) (cells + rm.cells) (slots + rm.slots) ∧ Q v T'.heap L ∧ ∀ t, Steps p.tables e below (T'.setTop { g with pc := g.pc + 3, stack := v.toList ++ rest }) t → Steps p.tables e below (T.setTop g) t := by
  subst has
  obtain ⟨cq, kq, qa, qb, qc⟩ := isOf hZ eT E
  obtain ⟨v, _, ⟨T1, L1, k1, n1⟩, -, X1, ⟨Lc, hQ, l1, y1, z1⟩, st⟩ := X.virtualBack hx (y := y) (z := z) hown (mvT hZ w1) (mvT hZ w2) nf (mvT hZ w3) (mvT hZ w4) hy (backOf (W := W) (hM []) hZ w5 w6 hf hl) qa qc hg hsize (Steps.refl _) hlen hstack hW hd (fun _ _ => ⟨rfl, eT, hc, hs⟩)
  dsimp only [Pt.U, Pt.locs, Pt.cells, Pt.slots] at X1 l1 y1 z1 st hQ
  subst l1 y1 z1
  exact ⟨T1, v, Lc, X1, hQ, fun t k => st.trans k⟩
/-- a new object at the address a: a fresh name for the heap's end -/
theorem newOb (X : Stand p l e R s m args below meth c T locs cells slots) (hx : p.tables.exec = Jvm.exec) (hZ : Z.Warmed39 s.vm) {own C : String} {index n : Nat} (hown : s.vm.findClass own = some m.cls) (w : (Jvm.Cond.classLink own index C).before a0 Z = true) (wi : (Jvm.Cond.instantiable C n).before a0 Z = true) (wz : (Jvm.Cond.initialized C).before a0 Z = true) (eT : T.heap = h)
    {g : JFrame} (hg : g.method = m) (hd : decode c.code g.pc = .ok (.new index, 3)) (hc : cells + 1 ≤ R.cells) (hl : slots + n ≤ R.slots) :
    ∃ T' h' a, a = h.size ∧ Stand p l e R s m args below meth c T' locs (cells + 1) (slots + n) ∧ T'.heap = h' ∧ Ext h h' ∧ Exa Z h' a C ∧ (∀ {O nm d : String} {ty : FieldType}, Laid Z a0 C O nm d → parseFieldDescriptor d = some ty → Fld Z h' a O nm d (defaultValue ty)) ∧
      ∀ t, Steps p.tables e below (T'.setTop { g with pc := g.pc + 3, stack := .ref a :: g.stack }) t → Steps p.tables e below (T.setTop g) t := by
  obtain ⟨T2, h2, X2, e2, E2, A2, D2, -, st2⟩ := newO X hx hZ hown w wi wz eT hg hd hc hl
  exact ⟨T2, h2, h.size, rfl, X2, e2, E2, A2, D2, st2⟩
theorem Old0.keep {ws : List Addr} (X : Ext Z.heap h) (K : Keep h h' ws) (q : ∀ x ∈ ws, Z.heap.size ≤ x) : Ext Z.heap h' := (Old.keep (n0 := Z.heap.size) ⟨rfl, X⟩ K q).2
theorem Old0.wr {a : Addr} {sl : Nat} {v : Value} (X : Ext Z.heap h) (W : Wr h h' a sl v) (q : Z.heap.size ≤ a) : Ext Z.heap h' := (Old.wr (n0 := Z.heap.size) ⟨rfl, X⟩ W q).2
theorem Old0.ext (X : Ext Z.heap h) (E : Ext h h') : Ext Z.heap h' := (Old.ext (n0 := Z.heap.size) ⟨rfl, X⟩ E).2
theorem ext_rfl : Ext h h := ⟨Nat.le_refl _, fun _ _ q => q⟩
theorem eqI_v {first : State} {o : Option Outcome} {idx : List Nat} {a : Term} {k : Int32} (q : (Jvm.Cond.eq a (.int k)).value args first o s idx = some true) : a.eval args first o idx s = some (.int k) := by
  cases ha : a.eval args first o idx s with
  | none => simp [Jvm.Cond.value, ha] at q
  | some x => cases x <;> simp [Jvm.Cond.value, ha, Term.eval] at q ⊢; exact q
theorem eqJ_v {first : State} {o : Option Outcome} {idx : List Nat} {a : Term} {k : Int64} (q : (Jvm.Cond.eq a (.long k)).value args first o s idx = some true) : a.eval args first o idx s = some (.long k) := by
  cases ha : a.eval args first o idx s with
  | none => simp [Jvm.Cond.value, ha] at q
  | some x => cases x <;> simp [Jvm.Cond.value, ha, Term.eval] at q ⊢; exact q
theorem neI_v {first : State} {o : Option Outcome} {idx : List Nat} {a : Term} {x k : Int32} (ha : a.eval args first o idx s = some (.int x)) (q : (Jvm.Cond.not (.eq a (.int k))).value args first o s idx = some true) : ¬ x = k := by
  have q' := not_v q
  intro e
  subst e
  simp [Jvm.Cond.value, ha, Term.eval] at q'
theorem neR_v {first : State} {o : Option Outcome} {idx : List Nat} {a b : Term} {x y : Addr} (ha : a.eval args first o idx s = some (.ref x)) (hb : b.eval args first o idx s = some (.ref y)) (q : (Jvm.Cond.not (.eq a b)).value args first o s idx = some true) : ¬ x = y := by
  have q' := not_v q
  intro e
  subst e
  simp [Jvm.Cond.value, ha, hb] at q'
theorem eqR_v {first : State} {o : Option Outcome} {idx : List Nat} {a b : Term} {x : Addr} (hb : b.eval args first o idx s = some (.ref x)) (q : (Jvm.Cond.eq a b).value args first o s idx = some true) : a.eval args first o idx s = some (.ref x) := by
  cases ha : a.eval args first o idx s with
  | none => simp [Jvm.Cond.value, ha] at q
  | some x => cases x <;> simp [Jvm.Cond.value, ha, hb] at q ⊢; exact q
theorem callPr (X : Stand p l e R s m args below meth c T locs cells slots) (hx : p.tables.exec = Jvm.exec) (hZ : Z.Warmed39 s.vm) {own : String} {index : Nat} {y : MethodName} {bytes : ByteArray} {maxL : Nat} {ret : Option FieldType} {rm : Room} {as' : Array Value}
    (hown : s.vm.findClass own = some m.cls) (w1 : (Jvm.Cond.methodLink own index y).before a0 Z = true) (w2 : (Jvm.Cond.instanceMethod y).before a0 Z = true) (w3 : (Jvm.Cond.selects y.cls y y).before a0 Z = true) (w4 : (Jvm.Cond.privateMethod y).before a0 Z = true) (w5 : (Jvm.Cond.initialized y.cls).before a0 Z = true) (w6 : (Jvm.Cond.code y bytes maxL ret).before a0 Z = true)
    (hy : y.cls ≠ "java/lang/invoke/MethodHandle" ∧ y.cls ≠ "java/lang/invoke/VarHandle") (hM : Ok l Z y bytes maxL ret rm as' h Q) (eT : T.heap = h) {W : Nat} (hf : rm.frames + 1 ≤ R.frames) (hl : W + (maxL + 11) + rm.locals ≤ R.locals) (hc : cells + rm.cells ≤ R.cells) (hs : slots + rm.slots ≤ R.slots)
    {C : String} {a : Addr} (E : Exa Z h a C) {g : JFrame} (hg : g.method = m) (hsize : g.locals.size = c.maxLocals) {argsL rest : List Value} (hlen : ∀ sig, parseMethodDescriptor y.desc = some sig → argsL.length = sig.parameters.length) (has : (.ref a :: argsL).toArray = as')
    (hstack : g.stack = argsL.reverse ++ .ref a :: rest) (hW : 2 * g.monitorRoom + (rest.map fun v => v.category).sum ≤ W) (hd : decode c.code g.pc = .ok (.invokevirtual index, 3)) :
    ∃ T' v L, Stand p l e R s m args below meth c T' (locs ++ L) (cells + rm.cells) (slots + rm.slots) ∧ Q v T'.heap L ∧ ∀ t, Steps p.tables e below (T'.setTop { g with pc := g.pc + 3, stack := v.toList ++ rest }) t → Steps p.tables e below (T.setTop g) t := by
  subst has
  obtain ⟨cq, q1, q2⟩ := E.cell
  obtain ⟨v, _, ⟨T1, L1, k1, n1⟩, -, X1, ⟨Lc, hQ, l1, y1, z1⟩, st⟩ := X.privateBack hx (y := y) hown (mvT hZ w1) (mvT hZ w2) (mvT hZ w3) (Cond.privateMethod_at (mvP hZ w4 (args := #[]))) (mvT hZ w6) hy (backOf (W := W) (hM []) hZ w6 w5 hf hl) hg hsize (Steps.refl _) (a := a) (by rw [eT]; exact q1) q2 hlen hstack hW hd (fun _ _ => ⟨rfl, eT, hc, hs⟩)
  dsimp only [Pt.U, Pt.locs, Pt.cells, Pt.slots] at X1 l1 y1 z1 st hQ
  subst l1 y1 z1
  exact ⟨T1, v, Lc, X1, hQ, fun t k => st.trans k⟩
theorem callIf (X : Stand p l e R s m args below meth c T locs cells slots) (hx : p.tables.exec = Jvm.exec) (hZ : Z.Warmed39 s.vm) {own C : String} {index count : Nat} {xi y : MethodName} {bytes : ByteArray} {maxL : Nat} {ret : Option FieldType} {rm : Room} {as' : Array Value}
    (hown : s.vm.findClass own = some m.cls) (w1 : (Jvm.Cond.methodLink own index xi).before a0 Z = true) (w2 : (Jvm.Cond.declares xi).before a0 Z = true) (w3 : (Jvm.Cond.interfaceMethod xi.cls xi.cls xi.name xi.desc).before args s = true) (w4 : (Jvm.Cond.selects C xi y).before a0 Z = true) (w5 : (Jvm.Cond.instanceMethod y).before a0 Z = true) (w6 : (Jvm.Cond.publicMethod y).before a0 Z = true) (w7 : (Jvm.Cond.unhidden C xi.name xi.desc).before a0 Z = true) (w8 : (Jvm.Cond.castable C xi.cls).before a0 Z = true) (w9 : (Jvm.Cond.code y bytes maxL ret).before a0 Z = true) (w10 : (Jvm.Cond.initialized y.cls).before a0 Z = true)
    (hy : xi.cls ≠ "java/lang/invoke/MethodHandle" ∧ xi.cls ≠ "java/lang/invoke/VarHandle") (hM : Ok l Z y bytes maxL ret rm as' h Q) (eT : T.heap = h) {W : Nat} (hf : rm.frames + 1 ≤ R.frames) (hl : W + (maxL + 11) + rm.locals ≤ R.locals) (hc : cells + rm.cells ≤ R.cells) (hs : slots + rm.slots ≤ R.slots)
    {a : Addr} (E : Exa Z h a C) {g : JFrame} (hg : g.method = m) (hsize : g.locals.size = c.maxLocals) {argsL rest : List Value} (hlen : ∀ sig, parseMethodDescriptor xi.desc = some sig → argsL.length = sig.parameters.length) (has : (.ref a :: argsL).toArray = as')
    (hstack : g.stack = argsL.reverse ++ .ref a :: rest) (hW : 2 * g.monitorRoom + (rest.map fun v => v.category).sum ≤ W) (hd : decode c.code g.pc = .ok (.invokeinterface index count, 5)) :
    ∃ T' v L, Stand p l e R s m args below meth c T' (locs ++ L) (cells + rm.cells) (slots + rm.slots) ∧ Q v T'.heap L ∧ ∀ t, Steps p.tables e below (T'.setTop { g with pc := g.pc + 5, stack := v.toList ++ rest }) t → Steps p.tables e below (T.setTop g) t := by
  subst has
  obtain ⟨cq, kq, qa, qb, qc⟩ := isOf hZ eT E
  obtain ⟨v, _, ⟨T1, L1, k1, n1⟩, -, X1, ⟨Lc, hQ, l1, y1, z1⟩, st⟩ := X.interfaceBack hx (xi := xi) (y := y) hown (mvT hZ w1) (mvT hZ w2) w3 (mvT hZ w4) (mvT hZ w5) (mvT hZ w6) (mvT hZ w7) (mvT hZ w8) hy (backOf (W := W) (hM []) hZ w9 w10 hf hl) qa qb qc hg hsize (Steps.refl _) hlen hstack hW hd (fun _ _ => ⟨rfl, eT, hc, hs⟩)
  dsimp only [Pt.U, Pt.locs, Pt.cells, Pt.slots] at X1 l1 y1 z1 st hQ
  subst l1 y1 z1
  exact ⟨T1, v, Lc, X1, hQ, fun t k => st.trans k⟩
theorem newAr (X : Stand p l e R s m args below meth c T locs cells slots) (hx : p.tables.exec = Jvm.exec) (hZ : Z.Warmed39 s.vm) {aty : ArrayType} (w : (Jvm.Cond.arrayClass (newarray.typeOf aty)).before a0 Z = true) (eT : T.heap = h) {g : JFrame} (hg : g.method = m) (hd : decode c.code g.pc = .ok (.newarray aty, 2)) {n : Int32} {rest : List Value} (hs : g.stack = .int n :: rest)
    (hn : ¬ n < 0) {cap : Nat} (hcap : n.toNatClampNeg ≤ cap) (hb : cap * 8 ≤ 536870912) (hc : cells + 1 ≤ R.cells) (hl : slots + cap ≤ R.slots) {ad : String} (had : "[" ++ (newarray.typeOf aty).toString = ad) :
    ∃ T' h' k a, a = h.size ∧ Stand p l e R s m args below meth c T' locs (cells + 1) (slots + cap) ∧ T'.heap = h' ∧ Ext h h' ∧ Arv Z h' a k (newarray.typeOf aty) n [] (defaultValue (newarray.typeOf aty)) ∧ Exa Z h' a ad ∧
      ∀ t, Steps p.tables e below (T'.setTop { g with pc := g.pc + 2, stack := .ref a :: rest }) t → Steps p.tables e below (T.setTop g) t := by
  obtain ⟨T2, h2, k, X2, e2, E2, A2, B2, st2⟩ := newPE X hx hZ w eT hg hd hs hn hcap hb hc hl had
  exact ⟨T2, h2, k, h.size, rfl, X2, e2, E2, Arv.new A2 hn, B2, st2⟩
theorem newRr (X : Stand p l e R s m args below meth c T locs cells slots) (hx : p.tables.exec = Jvm.exec) (hZ : Z.Warmed39 s.vm) {own C : String} {index : Nat} (hown : s.vm.findClass own = some m.cls) (w1 : (Jvm.Cond.classLink own index C).before a0 Z = true) (w2 : (Jvm.Cond.arrayOver (.object C)).before a0 Z = true)
    (eT : T.heap = h) {g : JFrame} (hg : g.method = m) (hd : decode c.code g.pc = .ok (.anewarray index, 3)) {n : Int32} {rest : List Value} (hs : g.stack = .int n :: rest) (hn : ¬ n < 0) {cap : Nat} (hcap : n.toNatClampNeg ≤ cap) (hb : cap * 8 ≤ 536870912) (hc : cells + 1 ≤ R.cells) (hl : slots + cap ≤ R.slots) {ad : String} (had : "[" ++ (FieldType.object C).toString = ad) :
    ∃ T' h' k a, a = h.size ∧ Stand p l e R s m args below meth c T' locs (cells + 1) (slots + cap) ∧ T'.heap = h' ∧ Ext h h' ∧ Arv Z h' a k (.object C) n [] .null ∧ Exa Z h' a ad ∧ Ovr Z k C ∧
      ∀ t, Steps p.tables e below (T'.setTop { g with pc := g.pc + 3, stack := .ref a :: rest }) t → Steps p.tables e below (T.setTop g) t := by
  obtain ⟨T2, h2, k, X2, e2, E2, A2, B2, O2, st2⟩ := newRE X hx hZ hown w1 w2 eT hg hd hs hn hcap hb hc hl had
  exact ⟨T2, h2, k, h.size, rfl, X2, e2, E2, Arv.new A2 hn, B2, O2, st2⟩
theorem own_len {t : Term} {a : Addr} {cl : Cell} {ty : FieldType} {k : Int32} (ev : t.eval args s none [] s = some (.ref a)) (A : Arr s s.heap a cl ty) (q : (Term.length t).eval args s none [] s = some (.int k)) : cl.slots.size < 2 ^ 31 ∧ cl.slots.size.toInt32 = k := by
  have ha := Arr.fin (U := s) (Vm.Alike.refl _) A
  simp only [Term.eval, ev] at q
  simp at q
  rw [ha] at q
  simp only [Option.bind_some] at q
  split at q
  · rename_i hlt
    simp only [Option.some.injEq, Value.int.injEq] at q
    exact ⟨hlt, q⟩
  · cases q
theorem own_el {t : Term} {a : Addr} {cl : Cell} {ty : FieldType} {j : Int32} {v : Value} (ev : t.eval args s none [] s = some (.ref a)) (A : Arr s s.heap a cl ty) (q : (Term.elem t (.int j)).eval args s none [] s = some v) : cl.slots[j.toNatClampNeg]? = some v :=
  (elem_in q ev rfl A.1).2
theorem cloneV (X : Stand p l e R s m args below meth c T locs cells slots) (hx : p.tables.exec = Jvm.exec) (hZ : Z.Warmed39 s.vm) {own ad : String} {index : Nat} (hown : s.vm.findClass own = some m.cls)
    (w1 : (Jvm.Cond.methodLink own index ⟨ad, "clone", "()Ljava/lang/Object;"⟩).before a0 Z = true) (w2 : (Jvm.Cond.sameMethod ad "java/lang/Object" "clone" "()Ljava/lang/Object;").before a0 Z = true) (w3 : (Jvm.Cond.native ⟨"java/lang/Object", "clone", "()Ljava/lang/Object;"⟩).before a0 Z = true)
    (w4 : (Jvm.Cond.instanceMethod ⟨"java/lang/Object", "clone", "()Ljava/lang/Object;"⟩).before a0 Z = true) (w5 : (Jvm.Cond.selects ad ⟨ad, "clone", "()Ljava/lang/Object;"⟩ ⟨"java/lang/Object", "clone", "()Ljava/lang/Object;"⟩).before a0 Z = true) (w6 : (Jvm.Cond.castable ad "java/lang/Cloneable").before a0 Z = true)
    (eT : T.heap = h) {b : Addr} {k : ClassId} {ty : FieldType} {z : Int32} {vs : List Value} {dv : Value} (F : Arv Z h b k ty z vs dv) (E : Exa Z h b ad) {g : JFrame} (hg : g.method = m) (hsize : g.locals.size = c.maxLocals) {rest : List Value} (hst : g.stack = .ref b :: rest) (hd : decode c.code g.pc = .ok (.invokevirtual index, 3))
    (hf : 1 ≤ R.frames) {W cap : Nat} (hW : 2 * g.monitorRoom + (rest.map fun v => v.category).sum ≤ W) (hl : W + 14 ≤ R.locals) (hcap : z.toNatClampNeg ≤ cap) (hc : cells + 1 ≤ R.cells) (hsl : slots + cap ≤ R.slots) :
    ∃ T' h' a, a = h.size ∧ Stand p l e R s m args below meth c T' locs (cells + 1) (slots + cap) ∧ T'.heap = h' ∧ Ext h h' ∧ Arv Z h' a k ty z vs dv ∧ Exa Z h' a ad ∧
      ∀ t, Steps p.tables e below (T'.setTop { g with pc := g.pc + 3, stack := .ref a :: rest }) t → Steps p.tables e below (T.setTop g) t := by
  obtain ⟨T2, h2, X2, e2, E2, A2, B2, st2⟩ := cloneH X hx hZ hown w1 w2 w3 w4 w5 w6 eT F.arh E hg hsize hst hd hf hW hl hcap hc hsl
  exact ⟨T2, h2, h.size, rfl, X2, e2, E2, A2, B2, st2⟩
end OwnKit
theorem nf_mate {s : State} {args : Array Value} {C : String} {y y' : MethodName} (hsel : (Jvm.Cond.selects C y' y').before args s = true) (hc : y'.cls = y.cls) : NotFace s y := fun r0 h0 => by
  obtain ⟨c2, r2, m2, q1, q2, q3, q4, kP, hkP, hkPi⟩ := Cond.selects_spec hsel
  have h1 := findClass_of_methodNamed h0
  have h2 := findClass_of_methodNamed q3
  rw [hc, h1] at h2
  exact ⟨kP, (Option.some.inj h2) ▸ hkP, hkPi⟩
/-! ## own kit, string constants: the tables may have been warmed by an interned text -/
section OwnKitS
variable {p : Program} {l : Launch} {e : Env} {R : Room} {s : State} {m : MethodId} {args : Array Value} {below : List Frame} {meth : Method} {c : Code} {T T' : State} {locs : List Loc} {cells slots : Nat} {Q : Option Value → Heap → List Loc → Prop} {f f' : JFrame} {Z : State} {a0 : Array Value} {h h' : Heap} {EL : List (String × Nat)} {vm0 : Vm} {k0 : Nat}
def GoS (p : Program) (e : Env) (s : State) (below : List Frame) (R : Room) (Z : State) (EL : List (String × Nat)) (Q : Option Value → Heap → List Loc → Prop) (T : State) (f : JFrame) : Prop :=
  ∃ s₂ o, Steps p.tables e below (T.setTop f) s₂ ∧ s₂.status = .running ∧ Ended s₂ below o ∧ ∃ v L, o = .returned v ∧ Q v s₂.heap L ∧ CHr Z EL s.vm s.heap s₂.vm s₂.heap ∧ ReturnedEndW s o s₂ L R.cells R.slots
theorem GoS.of (k : ∀ t, Steps p.tables e below (T'.setTop f') t → Steps p.tables e below (T.setTop f) t) (G : GoS p e s below R Z EL Q T' f') : GoS p e s below R Z EL Q T f := by
  obtain ⟨s2, o, h1, h2⟩ := G
  exact ⟨s2, o, k _ h1, h2⟩
theorem GoS.cast (q : f = f') (G : GoS p e s below R Z EL Q T f') : GoS p e s below R Z EL Q T f := q ▸ G
theorem GoS.fin (X : Stand p l e R (s.setVm vm0) m args below meth c T locs cells slots) (hlk : meth.locks = false) (hS : s.Since vm0 k0) (hk : k0 ≤ h.size) (hZ : Z.Warmed39 vm0) (hEL : EW Z a0 EL) (C : CHr Z EL s.vm s.heap vm0 h) (eT : T.heap = h) {v : Option Value} (hv : meth.sig.returnType = none → v = none) (hc : cells ≤ R.cells) (hs : slots ≤ R.slots) (hq : Q v T.heap locs)
    (step : ∀ fs, (∀ (f : JFrame) (acts : List Action), f.method = m → f.locked = none → f.entered = [] → (doReturn e (T.setTop f) acts v).1 = T.setFrames fs) → Steps p.tables e below (T.setTop f) (T.setFrames fs)) : GoS p e s below R Z EL Q T f := by
  subst eT
  obtain ⟨fs, hr, hrun, hended, hW⟩ := X.leaveW hS hk hv hlk
  have A := CHv.at X hZ hEL C.1
  exact ⟨_, _, step fs hr, hrun, hended, v, locs, rfl, hq, C.trans A, hW.1, hW.2.1, hW.2.2.1, hW.2.2.2.mono hc hs⟩
theorem GoS.retO (X : Stand p l e R (s.setVm vm0) m args below meth c T locs cells slots) (hx : p.tables.exec = Jvm.exec) (hlk : meth.locks = false) (hS : s.Since vm0 k0) (hk : k0 ≤ h.size) (hZ : Z.Warmed39 vm0) (hEL : EW Z a0 EL) (C : CHr Z EL s.vm s.heap vm0 h) (eT : T.heap = h) {pc : Nat} {Ls : Array Slot} {w : Value} {t : FieldType} {i : Instr} {rest : List Value} (hret : meth.sig.returnType = some t) (hn : narrow t w = w)
    (hi : (i = .ireturn ∧ (t = .int ∨ t = .boolean ∨ t = .byte ∨ t = .char ∨ t = .short) ∧ ∃ z, w = .int z) ∨ (i = .lreturn ∧ t = .long ∧ ∃ z, w = .long z) ∨ (i = .dreturn ∧ t = .double ∧ ∃ z, w = .double z) ∨ (i = .freturn ∧ t = .float ∧ ∃ z, w = .float z) ∨ (i = .areturn ∧ t.isReference = true ∧ w.isRef = true))
    (hd : decode c.code pc = .ok (i, 1)) (hc : cells ≤ R.cells) (hs : slots ≤ R.slots) (hq : Q (some w) T.heap locs) : GoS p e s below R Z EL Q T (mkF m pc Ls (w :: rest)) :=
  GoS.fin X hlk hS hk hZ hEL C eT (fun h => by rw [hret] at h; cases h) hc hs hq (fun fs hr => retOut X hx hret hn hi hd hr)
theorem GoS.retI (X : Stand p l e R (s.setVm vm0) m args below meth c T locs cells slots) (hx : p.tables.exec = Jvm.exec) (hlk : meth.locks = false) (hS : s.Since vm0 k0) (hk : k0 ≤ h.size) (hZ : Z.Warmed39 vm0) (hEL : EW Z a0 EL) (C : CHr Z EL s.vm s.heap vm0 h) (eT : T.heap = h) (hret : meth.sig.returnType = some .int) {pc : Nat} {Ls : Array Slot} {z : Int32} {rest : List Value}
    (hd : decode c.code pc = .ok (.ireturn, 1)) (hc : cells ≤ R.cells) (hs : slots ≤ R.slots) (hq : Q (some (.int z)) T.heap locs) : GoS p e s below R Z EL Q T (mkF m pc Ls (.int z :: rest)) :=
  GoS.retO X hx hlk hS hk hZ hEL C eT hret rfl (Or.inl ⟨rfl, Or.inl rfl, _, rfl⟩) hd hc hs hq
theorem GoS.retA (X : Stand p l e R (s.setVm vm0) m args below meth c T locs cells slots) (hx : p.tables.exec = Jvm.exec) (hlk : meth.locks = false) (hS : s.Since vm0 k0) (hk : k0 ≤ h.size) (hZ : Z.Warmed39 vm0) (hEL : EW Z a0 EL) (C : CHr Z EL s.vm s.heap vm0 h) (eT : T.heap = h) {t : FieldType} (hret : meth.sig.returnType = some t) (ht : t.isReference = true) {pc : Nat} {Ls : Array Slot} {w : Value} {rest : List Value}
    (hw : w.isRef = true) (hd : decode c.code pc = .ok (.areturn, 1)) (hc : cells ≤ R.cells) (hs : slots ≤ R.slots) (hq : Q (some w) T.heap locs) : GoS p e s below R Z EL Q T (mkF m pc Ls (w :: rest)) :=
  GoS.retO X hx hlk hS hk hZ hEL C eT hret (by cases t <;> first | (cases ht; done) | rfl) (Or.inr (Or.inr (Or.inr (Or.inr ⟨rfl, ht, hw⟩)))) hd hc hs hq
theorem GoS.retB (X : Stand p l e R (s.setVm vm0) m args below meth c T locs cells slots) (hx : p.tables.exec = Jvm.exec) (hlk : meth.locks = false) (hS : s.Since vm0 k0) (hk : k0 ≤ h.size) (hZ : Z.Warmed39 vm0) (hEL : EW Z a0 EL) (C : CHr Z EL s.vm s.heap vm0 h) (eT : T.heap = h) {t : FieldType} (hret : meth.sig.returnType = some t) (ht : t = .boolean ∨ t = .byte ∨ t = .char ∨ t = .short) {pc : Nat} {Ls : Array Slot} {z : Int32} {rest : List Value}
    (hd : decode c.code pc = .ok (.ireturn, 1)) (hc : cells ≤ R.cells) (hs : slots ≤ R.slots) {z' : Int32} (hz : nar t z = z') (hq : Q (some (.int z')) T.heap locs) : GoS p e s below R Z EL Q T (mkF m pc Ls (.int z :: rest)) := by
  subst hz
  exact GoS.fin X hlk hS hk hZ hEL C eT (fun h => by rw [hret] at h; cases h) hc hs hq (fun fs hr => retN X hx hret ht hd hr)
theorem GoS.retV (X : Stand p l e R (s.setVm vm0) m args below meth c T locs cells slots) (hx : p.tables.exec = Jvm.exec) (hlk : meth.locks = false) (hS : s.Since vm0 k0) (hk : k0 ≤ h.size) (hZ : Z.Warmed39 vm0) (hEL : EW Z a0 EL) (C : CHr Z EL s.vm s.heap vm0 h) (eT : T.heap = h) (hret : meth.sig.returnType = none) {pc : Nat} {Ls : Array Slot}
    (hd : decode c.code pc = .ok (.return_, 1)) (hc : cells ≤ R.cells) (hs : slots ≤ R.slots) (hq : Q none T.heap locs) : GoS p e s below R Z EL Q T (mkF m pc Ls []) :=
  GoS.fin X hlk hS hk hZ hEL C eT (fun _ => rfl) hc hs hq (fun fs hr => X.returnOut hx hret hd hr)
def OkS (l : Launch) (Z : State) (EL : List (String × Nat)) (y : MethodName) (bytes : ByteArray) (maxL : Nat) (ret : Option FieldType) (rm : Room) (as' : Array Value) (h : Heap) (Q : Option Value → Heap → List Loc → Prop) : Prop :=
  ∀ ws : List Jvm.Cond, MetFree l y (head1 (Jvm.Cond.code y bytes maxL ret :: ws) rm) (fun a U => a = as' ∧ Z.Warmed39 U.vm ∧ U.heap = h ∧ CHv Z EL U.vm h) (fun _ _ _ _ _ => True) (fun _ U o U' => ∃ v L, o = .returned v ∧ Q v U'.heap L ∧ CHr Z EL U.vm U.heap U'.vm U'.heap ∧ ReturnedEndW U o U' L rm.cells rm.slots)
theorem OkS.mk {y : MethodName} {bytes : ByteArray} {maxL : Nat} {ret : Option FieldType} {rm : Room} {as' : Array Value} (hn : plainFor y = true)
    (k : ∀ p e s m below meth c s₁, p.tables.exec = Jvm.exec → c.code = bytes → c.maxLocals = maxL → s.vm.findClass y.cls = some m.cls → meth.name = y.name → meth.sig.returnType = ret → meth.locks = false → Z.Warmed39 s.vm → s₁.heap = h → CHr Z EL s.vm s.heap s.vm h → s.Since s.vm 0 → Stand p l e rm (s.setVm s.vm) m as' below meth c s₁ [] 0 0 → GoS p e s below rm Z EL Q s₁ (entryFrame m as' maxL)) :
    OkS l Z EL y bytes maxL ret rm as' h Q := by
  intro ws
  refine MetFree.of_bodySF hn hisR ?_
  intro p e s m args below meth c s₁ Bd hml0 hP hK
  obtain ⟨rfl, hZ, hh, hC⟩ := hP
  exact k p e s m below meth c s₁ Bd.exec Bd.bytes hml0 (findClass_of_methodNamed Bd.named) (name_of_methodNamed Bd.named Bd.method).1 Bd.returns Bd.notSynchronized hZ (by rw [← hh, Bd.state]; rfl) (by rw [hh]; exact CHr.refl hC) ((State.WarmedH.refl s).since 0) (Stand.of_body Bd)
theorem callStS (X : Stand p l e R (s.setVm vm0) m args below meth c T locs cells slots) (hx : p.tables.exec = Jvm.exec) (hZ : Z.Warmed39 vm0) {own : String} {index : Nat} {y : MethodName} {bytes : ByteArray} {maxL : Nat} {ret : Option FieldType} {rm : Room} {as' : Array Value}
    (hS : s.Since vm0 k0) (hk : k0 ≤ h.size) (hEL : EW Z a0 EL) (H : CHv Z EL vm0 h)
    (hown : vm0.findClass own = some m.cls) (w1 : (Jvm.Cond.methodLink own index y).before a0 Z = true) (w2 : (Jvm.Cond.static y).before a0 Z = true) (w3 : (Jvm.Cond.initialized y.cls).before a0 Z = true) (w4 : (Jvm.Cond.code y bytes maxL ret).before a0 Z = true)
    (hy : y.cls ≠ "java/lang/invoke/MethodHandle" ∧ y.cls ≠ "java/lang/invoke/VarHandle") (hM : OkS l Z EL y bytes maxL ret rm as' h Q) (eT : T.heap = h) {W : Nat} (hf : rm.frames + 1 ≤ R.frames) (hl : W + (maxL + 11) + rm.locals ≤ R.locals) (hc : cells + rm.cells ≤ R.cells) (hs : slots + rm.slots ≤ R.slots)
    {g : JFrame} (hg : g.method = m) (hsize : g.locals.size = c.maxLocals) {argsL rest : List Value} (hlen : ∀ sig, parseMethodDescriptor y.desc = some sig → argsL.length = sig.parameters.length) (has : argsL.toArray = as')
    (hstack : g.stack = argsL.reverse ++ rest) (hW : 2 * g.monitorRoom + (rest.map fun v => v.category).sum ≤ W) (hd : decode c.code g.pc = .ok (.invokestatic index, 3)) :
    ∃ T' v L, Stand p l e R (s.setVm T'.vm) m args below meth c T' (locs ++ L) (cells + rm.cells) (slots + rm.slots) ∧ Q v T'.heap L ∧ s.Since T'.vm T'.heap.size ∧ h.size ≤ T'.heap.size ∧ Z.Warmed39 T'.vm ∧ T'.vm.findClass own = some m.cls ∧ CHr Z EL vm0 h T'.vm T'.heap ∧ ∀ t, Steps p.tables e below (T'.setTop { g with pc := g.pc + 3, stack := v.toList ++ rest }) t → Steps p.tables e below (T.setTop g) t := by
  subst has
  subst eT
  obtain ⟨v, _, ⟨T1, L1, k1, n1⟩, -, X1, S1, g1, ⟨Lc, hQ, l1, y1, z1, c1⟩, st⟩ := callSS X hx (y := y) hown (mvT (s := s.setVm vm0) hZ w1) (mvT (s := s.setVm vm0) hZ w2) (mvT (s := s.setVm vm0) hZ w3) (mvT (s := s.setVm vm0) hZ w4) hy (backOfSH (W := W) (hM []) hZ w4 w3 hf hl hEL H) hg hsize hlen hstack hW hd (fun _ _ => ⟨rfl, rfl, hc, hs⟩)
  dsimp only [Pt.U, Pt.locs, Pt.cells, Pt.slots] at X1 l1 y1 z1 st hQ S1 g1 c1
  subst l1 y1 z1
  exact ⟨T1, v, Lc, X1, hQ, foldS hS hk S1 g1, g1, State.Warmed39.trans (t := s.setVm vm0) hZ S1.1, by rw [S1.1.alike.findClass]; exact hown, c1, fun t k => st.trans k⟩
theorem callNewS (X : Stand p l e R (s.setVm vm0) m args below meth c T locs cells slots) (hx : p.tables.exec = Jvm.exec) (hZ : Z.Warmed39 vm0) {own : String} {index : Nat} {y : MethodName} {bytes : ByteArray} {maxL : Nat} {rm : Room} {as' : Array Value} (hy1 : y.name = "<init>")
    (hS : s.Since vm0 k0) (hk : k0 ≤ h.size) (hEL : EW Z a0 EL) (H : CHv Z EL vm0 h)
    (hown : vm0.findClass own = some m.cls) (w1 : (Jvm.Cond.methodLink own index y).before a0 Z = true) (w2 : (Jvm.Cond.instanceMethod y).before a0 Z = true) (w3 : (Jvm.Cond.initialized y.cls).before a0 Z = true) (w4 : (Jvm.Cond.code y bytes maxL none).before a0 Z = true)
    (hy : y.cls ≠ "java/lang/invoke/MethodHandle" ∧ y.cls ≠ "java/lang/invoke/VarHandle") (hM : OkS l Z EL y bytes maxL none rm as' h Q) (eT : T.heap = h) {W : Nat} (hf : rm.frames + 1 ≤ R.frames) (hl : W + (maxL + 11) + rm.locals ≤ R.locals) (hc : cells + rm.cells ≤ R.cells) (hs : slots + rm.slots ≤ R.slots)
    {g : JFrame} (hg : g.method = m) (hsize : g.locals.size = c.maxLocals) {a : Addr} {argsL rest : List Value} (hlen : ∀ sig, parseMethodDescriptor y.desc = some sig → argsL.length = sig.parameters.length) (has : (.ref a :: argsL).toArray = as')
    (hstack : g.stack = argsL.reverse ++ .ref a :: rest) (hW : 2 * g.monitorRoom + (rest.map fun v => v.category).sum ≤ W) (hd : decode c.code g.pc = .ok (.invokespecial index, 3)) :
    ∃ T' v L, Stand p l e R (s.setVm T'.vm) m args below meth c T' (locs ++ L) (cells + rm.cells) (slots + rm.slots) ∧ Q v T'.heap L ∧ s.Since T'.vm T'.heap.size ∧ h.size ≤ T'.heap.size ∧ Z.Warmed39 T'.vm ∧ T'.vm.findClass own = some m.cls ∧ CHr Z EL vm0 h T'.vm T'.heap ∧ ∀ t, Steps p.tables e below (T'.setTop { g with pc := g.pc + 3, stack := v.toList ++ rest }) t → Steps p.tables e below (T.setTop g) t := by
  subst has
  subst eT
  obtain ⟨v, _, ⟨T1, L1, k1, n1⟩, -, X1, S1, g1, ⟨Lc, hQ, l1, y1, z1, c1⟩, st⟩ := X.specialBackS hx (y := y) hy1 hown (mvT (s := s.setVm vm0) hZ w1) (mvT (s := s.setVm vm0) hZ w2) (mvT (s := s.setVm vm0) hZ w4) hy (backOfSH (W := W) (hM []) hZ w4 w3 hf hl hEL H) hg hsize (Steps.refl _) (a := a) hlen hstack hW hd (fun _ _ => ⟨rfl, rfl, hc, hs⟩)
  dsimp only [Pt.U, Pt.locs, Pt.cells, Pt.slots] at X1 l1 y1 z1 st hQ S1 g1 c1
  subst l1 y1 z1
  exact ⟨T1, v, Lc, X1, hQ, foldS hS hk S1 g1, g1, State.Warmed39.trans (t := s.setVm vm0) hZ S1.1, by rw [S1.1.alike.findClass]; exact hown, c1, fun t k => st.trans k⟩
theorem callViS (X : Stand p l e R (s.setVm vm0) m args below meth c T locs cells slots) (hx : p.tables.exec = Jvm.exec) (hZ : Z.Warmed39 vm0) {own C : String} {index : Nat} {y z : MethodName} {bytes : ByteArray} {maxL : Nat} {ret : Option FieldType} {rm : Room} {as' : Array Value}
    (hS : s.Since vm0 k0) (hk : k0 ≤ h.size) (hEL : EW Z a0 EL) (H : CHv Z EL vm0 h)
    (hown : vm0.findClass own = some m.cls) (w1 : (Jvm.Cond.methodLink own index y).before a0 Z = true) (w2 : (Jvm.Cond.declares y).before a0 Z = true) (nf : NotFace (s.setVm vm0) y) (w3 : (Jvm.Cond.selects C y z).before a0 Z = true) (w4 : (Jvm.Cond.instanceMethod z).before a0 Z = true) (w5 : (Jvm.Cond.code z bytes maxL ret).before a0 Z = true) (w6 : (Jvm.Cond.initialized z.cls).before a0 Z = true)
    (hy : y.cls ≠ "java/lang/invoke/MethodHandle" ∧ y.cls ≠ "java/lang/invoke/VarHandle") (hM : OkS l Z EL z bytes maxL ret rm as' h Q) (eT : T.heap = h) {W : Nat} (hf : rm.frames + 1 ≤ R.frames) (hl : W + (maxL + 11) + rm.locals ≤ R.locals) (hc : cells + rm.cells ≤ R.cells) (hs : slots + rm.slots ≤ R.slots)
    {a : Addr} (E : Exa Z h a C) {g : JFrame} (hg : g.method = m) (hsize : g.locals.size = c.maxLocals) {argsL rest : List Value} (hlen : ∀ sig, parseMethodDescriptor y.desc = some sig → argsL.length = sig.parameters.length) (has : (.ref a :: argsL).toArray = as')
    (hstack : g.stack = argsL.reverse ++ .ref a :: rest) (hW : 2 * g.monitorRoom + (rest.map fun v => v.category).sum ≤ W) (hd : decode c.code g.pc = .ok (.invokevirtual index, 3)) :
    ∃ T' v L, Stand p l e R (s.setVm T'.vm) m args below meth c T' (locs ++ L) (cells + rm.cells) (slots + rm.slots) ∧ Q v T'.heap L ∧ s.Since T'.vm T'.heap.size ∧ h.size ≤ T'.heap.size ∧ Z.Warmed39 T'.vm ∧ T'.vm.findClass own = some m.cls ∧ CHr Z EL vm0 h T'.vm T'.heap ∧ ∀ t, Steps p.tables e below (T'.setTop { g with pc := g.pc + 3, stack := v.toList ++ rest }) t → Steps p.tables e below (T.setTop g) t := by
  subst has
  subst eT
  obtain ⟨cq, kq, qa, qb, qc⟩ := isOf (s := s.setVm vm0) hZ rfl E
  obtain ⟨v, _, ⟨T1, L1, k1, n1⟩, -, X1, S1, g1, ⟨Lc, hQ, l1, y1, z1, c1⟩, st⟩ := X.virtualBackS hx (y := y) (z := z) hown (mvT (s := s.setVm vm0) hZ w1) (mvT (s := s.setVm vm0) hZ w2) nf (mvT (s := s.setVm vm0) hZ w3) (mvT (s := s.setVm vm0) hZ w4) hy (backOfSH (W := W) (hM []) hZ w5 w6 hf hl hEL H) qa qc hg hsize (Steps.refl _) hlen hstack hW hd (fun _ _ => ⟨rfl, rfl, hc, hs⟩)
  dsimp only [Pt.U, Pt.locs, Pt.cells, Pt.slots] at X1 l1 y1 z1 st hQ S1 g1 c1
  subst l1 y1 z1
  exact ⟨T1, v, Lc, X1, hQ, foldS hS hk S1 g1, g1, State.Warmed39.trans (t := s.setVm vm0) hZ S1.1, by rw [S1.1.alike.findClass]; exact hown, c1, fun t k => st.trans k⟩
open Jvm.Free.SB Jvm.Free.SBG in
theorem own_safeNull {x : Addr} {vm : Vm} (hal : Z.vm.Alike vm) (E : Exa Z h x "java/lang/String") (F : Fld Z h x "java/lang/String" "value" "[B" .null) : Safe Z EL vm h x := fun B => by
  obtain ⟨cell, k, e1, e2, e3, -, -⟩ := E
  obtain ⟨p, -, u, a, -, q, -, G, rfl | rfl⟩ := B
  · have hh := (show h[q.sa]? = some q.sC from G.ha)
    obtain ⟨cell', cf, k', i, f, f1, f2, f3, f4, f5, f6, f7⟩ := F
    cases hh.symm.trans f1
    obtain ⟨cS, ⟨⟨s1, s2, s3, ⟨cv, kv, iv, s4, s4'⟩, s5, s6, s7, s8, r⟩, -⟩, -⟩ := G
    obtain ⟨kv', z4⟩ := ff_back (U := Wst Z vm h) hal s4
    cases f2.symm.trans z4
    rw [s8] at f7; cases f7
  · cases (show h[q.sd]? = some q.SA from G.hd).symm.trans e1
    obtain ⟨cS, -, -, fB, -⟩ := G
    have fB : vm.findClass "[B" = some q.SA.cls := fB
    rw [hal.findClass] at fB
    obtain ⟨k1, q1, q2⟩ := Vm.findClass_spec fB
    obtain ⟨k2, q3, q4⟩ := Vm.findClass_spec e2
    cases q1.symm.trans q3
    exact absurd (q2.symm.trans q4) (by decide)
end OwnKitS
theorem own_c255 (x : Int32) : nar .char (x &&& 255).toUInt32.toUInt16.toUInt32.toInt32 = x &&& 255 := by
  rw [i2c_mask]
  exact i2c_mask x
theorem own_f255 (x : Int32) : fits .char (.int (x &&& 255)) = true := by
  rw [← own_c255]
  exact fits_nar_char _
theorem own_b8 (x : Int32) : nar .byte x.toInt8.toInt32 = x.toInt8.toInt32 := by
  show x.toInt8.toInt32.toInt8.toInt32 = _
  rw [Int8.toInt8_toInt32]
theorem own_le255 (x : Int32) : ¬ ((255 : Int32) < (x &&& (255 : Int32))) := by
  have h1 := c_mask x 255 8 (by decide) (by decide)
  rw [Int32.lt_iff_toInt_lt, h1]
  show ¬ (255 : Int) < _
  omega
def own_Ctx (Z : State) (A : Nat → Addr) (KC : Nat → Cell) (IC : Nat → Int32) (VC : Nat → Value) : Prop :=
  (Sta Z Z.heap "com/example/hernieuw/hernieuw/estimation/Estimator" "NAIVE" "Lcom/example/hernieuw/hernieuw/estimation/Estimator;" (.ref (A 0))) ∧
  (Exa Z Z.heap (A 0) "com/example/hernieuw/hernieuw/estimation/Estimator$1")
theorem own_w {Z : State} {a0 : Array Value} (hw : ∀ d ∈ tables_1, d.before a0 Z = true) {i : Nat} {d : Jvm.Cond} (h : tables_1[i]? = some d) : d.before a0 Z = true := hw d (List.mem_of_getElem? h)
def own_EL : List (String × Nat) := []
theorem own_EW {Z : State} {a0 : Array Value} (hw : ∀ d ∈ tables_1, d.before a0 Z = true) : EW Z a0 own_EL := EW.nil
theorem own_wS {Z : State} {a0 : Array Value} (hw : ∀ d ∈ tables_1, d.before a0 Z = true) : ∀ a ∈ Bundle.stringAtoms, a.before a0 Z = true := by
  intro a ha
  simp only [Bundle.stringAtoms, List.mem_cons, List.not_mem_nil, or_false] at ha
  rcases ha with rfl | rfl | rfl | rfl | rfl | rfl | rfl
  · exact (own_w hw (i := 26) rfl)
  · exact (own_w hw (i := 27) rfl)
  · exact (own_w hw (i := 28) rfl)
  · exact (own_w hw (i := 29) rfl)
  · exact (own_w hw (i := 30) rfl)
  · exact (own_w hw (i := 31) rfl)
  · exact (own_w hw (i := 32) rfl)
theorem d1_0 : decode prog_56_method_1_code 0 = .ok (.aload_n 0, 1) := by decide +kernel
theorem d1_1 : decode prog_56_method_1_code 1 = .ok (.invokespecial 1, 3) := by decide +kernel
theorem d1_4 : decode prog_56_method_1_code 4 = .ok (.aload_n 0, 1) := by decide +kernel
theorem d1_5 : decode prog_56_method_1_code 5 = .ok (.ldc2_w 9, 3) := by decide +kernel
theorem d1_8 : decode prog_56_method_1_code 8 = .ok (.putfield 11, 3) := by decide +kernel
theorem d1_11 : decode prog_56_method_1_code 11 = .ok (.aload_n 0, 1) := by decide +kernel
theorem d1_12 : decode prog_56_method_1_code 12 = .ok (.iconst 4, 1) := by decide +kernel
theorem d1_13 : decode prog_56_method_1_code 13 = .ok (.newarray .double, 2) := by decide +kernel
theorem d1_15 : decode prog_56_method_1_code 15 = .ok (.putfield 17, 3) := by decide +kernel
theorem d1_18 : decode prog_56_method_1_code 18 = .ok (.return_, 1) := by decide +kernel
abbrev own_m0 : MethodName := (⟨"com/example/hernieuw/hernieuw/estimation/FetchHistory", "<init>", "()V"⟩ : MethodName)
theorem ef_rm_hinit (m : MethodId) (ob : Addr) : entryFrame m #[(.ref ob)] 1 = mkF m 0 #[rv ob] [] := by first | (simp [entryFrame, mkF, argsToLocals, Value.category]; done) | rfl
theorem pn1 : plainFor (⟨"com/example/hernieuw/hernieuw/estimation/FetchHistory", "<init>", "()V"⟩ : MethodName) = true := by first | exact plainFor_of_name (by first | (simp [plainName, overriddenIn]; done) | decide +kernel) | decide +kernel
set_option maxRecDepth 65536 in
set_option maxHeartbeats 40000000 in
theorem rm_hinit {l : Launch} {Z : State} {a0 : Array Value} {A : Nat → Addr} {KC : Nat → Cell} {IC : Nat → Int32} {VC : Nat → Value} (hw : ∀ d ∈ tables_1, d.before a0 Z = true) (G : own_Ctx Z A KC IC VC) (ob : Addr)  (h0 : Heap) (O0 : Ext Z.heap h0) (prem0 : Exa Z h0 ob "com/example/hernieuw/hernieuw/estimation/FetchHistory") (prem1 : Fld Z h0 ob "com/example/hernieuw/hernieuw/estimation/FetchHistory" "fetches" "I" (.int (0 : Int32))) (prem2 : Fld Z h0 ob "com/example/hernieuw/hernieuw/estimation/FetchHistory" "days" "D" (.double (0 : UInt64))) (prem3 : Fld Z h0 ob "com/example/hernieuw/hernieuw/estimation/FetchHistory" "unchangedDays" "D" (.double (0 : UInt64))) (prem4 : Fld Z h0 ob "com/example/hernieuw/hernieuw/estimation/FetchHistory" "shortestInterval" "D" (.double (0 : UInt64))) (prem5 : Fld Z h0 ob "com/example/hernieuw/hernieuw/estimation/FetchHistory" "changedIntervals" "[D" .null) (prem6 : Fld Z h0 ob "com/example/hernieuw/hernieuw/estimation/FetchHistory" "changes" "I" (.int (0 : Int32))) (prem7 : Z.heap.size ≤ ob) :
    Ok l Z own_m0 prog_56_method_1_code 1 none ({ frames := 1, cells := 1, slots := 4, locals := 12 } : Room) #[(.ref ob)] h0
      (fun v h L => ∃ ar : Addr, ∃ ka : ClassId, v = none ∧ (Fr Z.heap.size L) ∧ (Keep h0 h [ob]) ∧ (h0.size ≤ ar) ∧ (Fld Z h ob "com/example/hernieuw/hernieuw/estimation/FetchHistory" "fetches" "I" (.int (0 : Int32))) ∧ (Fld Z h ob "com/example/hernieuw/hernieuw/estimation/FetchHistory" "days" "D" (.double (0 : UInt64))) ∧ (Fld Z h ob "com/example/hernieuw/hernieuw/estimation/FetchHistory" "unchangedDays" "D" (.double (0 : UInt64))) ∧ (Fld Z h ob "com/example/hernieuw/hernieuw/estimation/FetchHistory" "shortestInterval" "D" (.double (9218868437227405312 : UInt64))) ∧ (Fld Z h ob "com/example/hernieuw/hernieuw/estimation/FetchHistory" "changedIntervals" "[D" (.ref ar)) ∧ (Fld Z h ob "com/example/hernieuw/hernieuw/estimation/FetchHistory" "changes" "I" (.int (0 : Int32))) ∧ (Arv Z h ar ka .double (4 : Int32) [(.double (0 : UInt64)), (.double (0 : UInt64)), (.double (0 : UInt64)), (.double (0 : UInt64))] (.double (0 : UInt64))) ∧ (Exa Z h ar "[D")) := by
  refine Ok.mk pn1 ?_
  intro p e s m below meth c T0 hx hby hml hown hnm hret hlk hZ e0 X0
  refine Go.cast (ef_rm_hinit m ob) ?_
  have D := @hb _ _ hby
  have N0 := Fr.nil Z.heap.size
  have K0 : Keep h0 h0 [ob] := Keep.refl _ _
  obtain ⟨T1, X1, e1, st1⟩ := initO X0 hx hZ hown (own_w hw (i := 11) rfl) (own_w hw (i := 12) rfl) (own_w hw (i := 13) rfl) e0 (g := (mkF m 1 #[rv ob] [(.ref ob)])) rfl (by rw [hml]; rfl) rfl (D d1_1) (by decide) (W := 0) (Nat.le_of_eq rfl) (by decide)
  obtain ⟨T2, h2, X2, e2, W2, st2⟩ := putF X1 hx hZ hown (host := "") (Or.inl (own_w hw (i := 15) rfl)) Via.refl e1 prem4 prem0 (Or.inl (own_w hw (i := 16) rfl)) (own_w hw (i := 6) rfl) (ty := .double) (by decide) rfl rfl (g := (mkF m 8 #[rv ob] [(.double (9218868437227405312 : UInt64)), (.ref ob)])) rfl rfl (D d1_8)
  have O3 := Old0.wr O0 W2 prem7
  have K3 := Keep.wr K0 W2 (Or.inl (List.mem_of_getElem? (i := 0) rfl))
  have N2 := Fr.snoc X2 N0 prem7
  have f2 : Fld Z h2 ob "com/example/hernieuw/hernieuw/estimation/FetchHistory" "shortestInterval" "D" (.double (9218868437227405312 : UInt64)) := Fld.same W2 prem4
  have f5 : Exa Z h2 ob "com/example/hernieuw/hernieuw/estimation/FetchHistory" := (Exa.wr W2 prem0)
  obtain ⟨T4, h4, k4, b4, q4, X4, e4, E4, V4, A4, st4⟩ := newAr X2 hx hZ (own_w hw (i := 17) rfl) e2 (g := (mkF m 13 #[rv ob] [(.int 4), (.ref ob)])) rfl (D d1_13) rfl (by decide) (cap := 4) (by decide) (by decide) (by decide) (by decide) (ad := "[D") (by decide)
  have O6 := Old0.ext O3 E4
  have K6 := Keep.ext K3 E4
  have g_b4 : Z.heap.size ≤ b4 := q4 ▸ O3.1
  have z_b4 : h0.size ≤ b4 := q4 ▸ K3.1
  have ne_ob_b4 : ob ≠ b4 := q4 ▸ Nat.ne_of_lt f5.lt
  have f7 : Arv Z h4 b4 k4 .double (4 : Int32) [(.double (0 : UInt64)), (.double (0 : UInt64)), (.double (0 : UInt64)), (.double (0 : UInt64))] (.double (0 : UInt64)) := Arv.pad V4 (pad_rep [] (.double (0 : UInt64)) 4)
  have f9 : Exa Z h4 ob "com/example/hernieuw/hernieuw/estimation/FetchHistory" := (Exa.ext E4 f5)
  have f10 : Fld Z h4 ob "com/example/hernieuw/hernieuw/estimation/FetchHistory" "changedIntervals" "[D" .null := (Fld.ext E4 (Fld.other W2 prem5 (Or.inr (slot_ne (Or.inl (own_w hw (i := 19) rfl)) (Or.inl (own_w hw (i := 16) rfl)) (by decide) (t := (.array .double)) (t' := .double) (by decide) (by decide)))))
  obtain ⟨T8, h8, X8, e8, W8, st8⟩ := putF X4 hx hZ hown (host := "") (Or.inl (own_w hw (i := 18) rfl)) Via.refl e4 f10 f9 (Or.inl (own_w hw (i := 19) rfl)) (own_w hw (i := 6) rfl) (ty := (.array .double)) (by decide) rfl rfl (g := (mkF m 15 #[rv ob] [(.ref b4), (.ref ob)])) rfl rfl (D d1_15)
  have O11 := Old0.wr O6 W8 prem7
  have K11 := Keep.wr K6 W8 (Or.inl (List.mem_of_getElem? (i := 0) rfl))
  have N8 := Fr.snoc X8 N2 prem7
  have f8 : Fld Z h8 ob "com/example/hernieuw/hernieuw/estimation/FetchHistory" "changedIntervals" "[D" (.ref b4) := Fld.same W8 f10
  have f12 : Fld Z h8 ob "com/example/hernieuw/hernieuw/estimation/FetchHistory" "fetches" "I" (.int 0) := (Fld.other W8 (Fld.ext E4 (Fld.other W2 prem1 (Or.inr (slot_ne (Or.inl (own_w hw (i := 44) rfl)) (Or.inl (own_w hw (i := 16) rfl)) (by decide) (t := .int) (t' := .double) (by decide) (by decide))))) (Or.inr (slot_ne (Or.inl (own_w hw (i := 44) rfl)) (Or.inl (own_w hw (i := 19) rfl)) (by decide) (t := .int) (t' := (.array .double)) (by decide) (by decide))))
  have f13 : Fld Z h8 ob "com/example/hernieuw/hernieuw/estimation/FetchHistory" "days" "D" (.double (0 : UInt64)) := (Fld.other W8 (Fld.ext E4 (Fld.other W2 prem2 (Or.inr (slot_ne (Or.inl (own_w hw (i := 42) rfl)) (Or.inl (own_w hw (i := 16) rfl)) (by decide) (t := .double) (t' := .double) (by decide) (by decide))))) (Or.inr (slot_ne (Or.inl (own_w hw (i := 42) rfl)) (Or.inl (own_w hw (i := 19) rfl)) (by decide) (t := .double) (t' := (.array .double)) (by decide) (by decide))))
  have f14 : Fld Z h8 ob "com/example/hernieuw/hernieuw/estimation/FetchHistory" "unchangedDays" "D" (.double (0 : UInt64)) := (Fld.other W8 (Fld.ext E4 (Fld.other W2 prem3 (Or.inr (slot_ne (Or.inl (own_w hw (i := 108) rfl)) (Or.inl (own_w hw (i := 16) rfl)) (by decide) (t := .double) (t' := .double) (by decide) (by decide))))) (Or.inr (slot_ne (Or.inl (own_w hw (i := 108) rfl)) (Or.inl (own_w hw (i := 19) rfl)) (by decide) (t := .double) (t' := (.array .double)) (by decide) (by decide))))
  have f15 : Fld Z h8 ob "com/example/hernieuw/hernieuw/estimation/FetchHistory" "shortestInterval" "D" (.double (9218868437227405312 : UInt64)) := (Fld.other W8 (Fld.ext E4 f2) (Or.inr (slot_ne (Or.inl (own_w hw (i := 16) rfl)) (Or.inl (own_w hw (i := 19) rfl)) (by decide) (t := .double) (t' := (.array .double)) (by decide) (by decide))))
  have f16 : Fld Z h8 ob "com/example/hernieuw/hernieuw/estimation/FetchHistory" "changes" "I" (.int 0) := (Fld.other W8 (Fld.ext E4 (Fld.other W2 prem6 (Or.inr (slot_ne (Or.inl (own_w hw (i := 49) rfl)) (Or.inl (own_w hw (i := 16) rfl)) (by decide) (t := .int) (t' := .double) (by decide) (by decide))))) (Or.inr (slot_ne (Or.inl (own_w hw (i := 49) rfl)) (Or.inl (own_w hw (i := 19) rfl)) (by decide) (t := .int) (t' := (.array .double)) (by decide) (by decide))))
  have f17 : Arv Z h8 b4 k4 .double (4 : Int32) [(.double (0 : UInt64)), (.double (0 : UInt64)), (.double (0 : UInt64)), (.double (0 : UInt64))] (.double (0 : UInt64)) := (Arv.other f7 W8 (Ne.symm ne_ob_b4))
  have f18 : Exa Z h8 b4 "[D" := (Exa.wr W8 A4)
  refine Go.of (T' := T8) (f' := (mkF m 18 #[rv ob] [])) (fun _ k => XS.aloadN X0.here hx rfl (D d1_0) rfl rfl (st1 _ (XS.aloadN X1.here hx rfl (D d1_4) rfl rfl (X1.ldc2DoubleC hx hown (mvT hZ (own_w hw (i := 14) rfl)) (g := (mkF m 5 #[rv ob] [(.ref ob)])) rfl (D d1_5) _ (st2 _ (XS.aloadN X2.here hx rfl (D d1_11) rfl rfl (XS.iconst X2.here hx rfl (D d1_12) (st4 _ (st8 _ k))))))))) ?_
  exact Go.retV X8 hx hlk hret (D d1_18) (by decide) (by decide) (by rw [e8]; exact ⟨b4, k4, rfl, N8, K11, z_b4, f12, f13, f14, f15, f8, f16, f17, f18⟩)
theorem d5_0 : decode prog_71_method_2_code 0 = .ok (.dload_n 0, 1) := by decide +kernel
theorem d5_1 : decode prog_71_method_2_code 1 = .ok (.ldc2_w 9, 3) := by decide +kernel
theorem d5_4 : decode prog_71_method_2_code 4 = .ok (.dcmp .g, 1) := by decide +kernel
theorem d5_5 : decode prog_71_method_2_code 5 = .ok (.ifCond .ge 26, 3) := by decide +kernel
theorem d5_8 : decode prog_71_method_2_code 8 = .ok (.iload_n 2, 1) := by decide +kernel
theorem d5_9 : decode prog_71_method_2_code 9 = .ok (.ifCond .eq 12, 3) := by decide +kernel
theorem d5_21 : decode prog_71_method_2_code 21 = .ok (.dload_n 0, 1) := by decide +kernel
theorem d5_22 : decode prog_71_method_2_code 22 = .ok (.dconst 0, 1) := by decide +kernel
theorem d5_23 : decode prog_71_method_2_code 23 = .ok (.dcmp .l, 1) := by decide +kernel
theorem d5_24 : decode prog_71_method_2_code 24 = .ok (.ifCond .le 7, 3) := by decide +kernel
theorem d5_27 : decode prog_71_method_2_code 27 = .ok (.iconst 1, 1) := by decide +kernel
theorem d5_28 : decode prog_71_method_2_code 28 = .ok (.goto 4, 3) := by decide +kernel
theorem d5_32 : decode prog_71_method_2_code 32 = .ok (.ireturn, 1) := by decide +kernel
abbrev own_m2 : MethodName := (⟨"com/example/hernieuw/hernieuw/numeric/Range", "contains", "(DZ)Z"⟩ : MethodName)
theorem ef_rm_cont (m : MethodId)  : entryFrame m #[(.double (4607182418800017408 : UInt64)), (.int (0 : Int32))] 3 = mkF m 0 #[.val (.double (4607182418800017408 : UInt64)), .second, iv (0 : Int32)] [] := by first | (simp [entryFrame, mkF, argsToLocals, Value.category]; done) | rfl
theorem pn3 : plainFor (⟨"com/example/hernieuw/hernieuw/numeric/Range", "contains", "(DZ)Z"⟩ : MethodName) = true := by first | exact plainFor_of_name (by first | (simp [plainName, overriddenIn]; done) | decide +kernel) | decide +kernel
set_option maxRecDepth 65536 in
set_option maxHeartbeats 40000000 in
theorem rm_cont {l : Launch} {Z : State} {a0 : Array Value} {A : Nat → Addr} {KC : Nat → Cell} {IC : Nat → Int32} {VC : Nat → Value} (hw : ∀ d ∈ tables_1, d.before a0 Z = true) (G : own_Ctx Z A KC IC VC)   (h0 : Heap) (O0 : Ext Z.heap h0)  :
    Ok l Z own_m2 prog_71_method_2_code 3 (some .boolean) ({ frames := 0, cells := 0, slots := 0, locals := 0 } : Room) #[(.double (4607182418800017408 : UInt64)), (.int (0 : Int32))] h0
      (fun v h L => v = some (.int (1 : Int32)) ∧ (h = h0) ∧ (L = [])) := by
  refine Ok.mk pn3 ?_
  intro p e s m below meth c T0 hx hby hml hown hnm hret hlk hZ e0 X0
  refine Go.cast (ef_rm_cont m ) ?_
  have D := @hb _ _ hby
  have N0 := Fr.nil Z.heap.size
  have K0 : Keep h0 h0 [] := Keep.refl _ _
  refine Go.of (T' := T0) (f' := (mkF m 32 #[.val (.double (4607182418800017408 : UInt64)), .second, iv 0] [(.int 1)])) (fun _ k => XS.dloadN X0.here hx rfl (D d5_0) rfl (X0.ldc2DoubleC hx hown (mvT hZ (own_w hw (i := 40) rfl)) (g := (mkF m 1 #[.val (.double (4607182418800017408 : UInt64)), .second, iv 0] [(.double (4607182418800017408 : UInt64))])) rfl (D d5_1) _ (XS.dcmpS X0.here hx rfl (D d5_4) rfl (v := (-1 : Int32)) (by decide +kernel) (XS.ifNo X0.here hx rfl (D d5_5) rfl ((if0 _ _).trans (tlt (by decide : (-1 : Int32) < (0 : Int32))).2.1) (XS.iloadN X0.here hx rfl (D d5_8) rfl (XS.ifYes X0.here hx rfl (pc0 := 9) (pc' := 21) rfl (D d5_9) rfl ((if0 _ _).trans (teq (by decide : (0 : Int32) = (0 : Int32))).1) (by decide) (by decide) (XS.dloadN X0.here hx rfl (D d5_21) rfl (XS.dconst0 X0.here hx rfl (D d5_22) (v := (0 : UInt64)) (by decide +kernel) (XS.dcmpS X0.here hx rfl (D d5_23) rfl (v := (1 : Int32)) (by decide +kernel) (XS.ifNo X0.here hx rfl (D d5_24) rfl ((if0 _ _).trans (tlt (by decide : (0 : Int32) < (1 : Int32))).2.2.2) (XS.iconst X0.here hx rfl (D d5_27) (XS.goto X0.here hx rfl (pc0 := 28) (pc' := 32) rfl (D d5_28) (by decide) (by decide) k)))))))))))) ?_
  exact Go.retB X0 hx hlk hret (by simp) (D d5_32) (by decide) (by decide) (z' := (1 : Int32)) rfl (by rw [e0]; exact ⟨rfl, rfl, by simp⟩)
theorem d4_0 : decode prog_71_method_3_code 0 = .ok (.dload_n 0, 1) := by decide +kernel
theorem d4_1 : decode prog_71_method_3_code 1 = .ok (.iload_n 2, 1) := by decide +kernel
theorem d4_2 : decode prog_71_method_3_code 2 = .ok (.invokestatic 11, 3) := by decide +kernel
theorem pd4 : parseMethodDescriptor "(DZ)Z" = some ⟨[.double, .boolean], some .boolean⟩ := by decide +kernel
theorem d4_5 : decode prog_71_method_3_code 5 = .ok (.ifCond .ne 17, 3) := by decide +kernel
theorem d4_22 : decode prog_71_method_3_code 22 = .ok (.return_, 1) := by decide +kernel
abbrev own_m5 : MethodName := (⟨"com/example/hernieuw/hernieuw/numeric/Range", "require", "(DZLjava/lang/String;)V"⟩ : MethodName)
theorem ef_rm_req (m : MethodId) (sx : Addr) : entryFrame m #[(.double (4607182418800017408 : UInt64)), (.int (0 : Int32)), (.ref sx)] 4 = mkF m 0 #[.val (.double (4607182418800017408 : UInt64)), .second, iv (0 : Int32), rv sx] [] := by first | (simp [entryFrame, mkF, argsToLocals, Value.category]; done) | rfl
theorem pn6 : plainFor (⟨"com/example/hernieuw/hernieuw/numeric/Range", "require", "(DZLjava/lang/String;)V"⟩ : MethodName) = true := by first | exact plainFor_of_name (by first | (simp [plainName, overriddenIn]; done) | decide +kernel) | decide +kernel
set_option maxRecDepth 65536 in
set_option maxHeartbeats 40000000 in
theorem rm_req {l : Launch} {Z : State} {a0 : Array Value} {A : Nat → Addr} {KC : Nat → Cell} {IC : Nat → Int32} {VC : Nat → Value} (hw : ∀ d ∈ tables_1, d.before a0 Z = true) (G : own_Ctx Z A KC IC VC) (sx : Addr)  (h0 : Heap) (O0 : Ext Z.heap h0)  :
    Ok l Z own_m5 prog_71_method_3_code 4 none ({ frames := 1, cells := 0, slots := 0, locals := 14 } : Room) #[(.double (4607182418800017408 : UInt64)), (.int (0 : Int32)), (.ref sx)] h0
      (fun v h L => v = none ∧ (h = h0) ∧ (L = [])) := by
  refine Ok.mk pn6 ?_
  intro p e s m below meth c T0 hx hby hml hown hnm hret hlk hZ e0 X0
  refine Go.cast (ef_rm_req m sx) ?_
  have D := @hb _ _ hby
  have N0 := Fr.nil Z.heap.size
  have K0 : Keep h0 h0 [] := Keep.refl _ _
  obtain ⟨T22, v22, L22, X22, q22, st22⟩ := callSt X0 hx hZ (y := own_m2) hown (own_w hw (i := 37) rfl) (own_w hw (i := 38) rfl) (own_w hw (i := 35) rfl) (own_w hw (i := 39) rfl) (by decide) (rm_cont hw G   h0 O0 ) e0 (W := 0) (by decide) (by decide) (by decide) (by decide) (g := (mkF m 2 #[.val (.double (4607182418800017408 : UInt64)), .second, iv 0, rv sx] [(.int 0), (.double (4607182418800017408 : UInt64))])) rfl (by rw [hml]; rfl) (argsL := [(.double (4607182418800017408 : UInt64)), (.int 0)]) (rest := []) (lenOf pd4 rfl) rfl rfl (Nat.le_of_eq rfl) (D d4_2)
  obtain ⟨rfl, e22, rfl⟩ := q22
  have N22 := Fr.app N0 (Fr.nil _)
  refine Go.of (T' := T22) (f' := (mkF m 22 #[.val (.double (4607182418800017408 : UInt64)), .second, iv 0, rv sx] [])) (fun _ k => XS.dloadN X0.here hx rfl (D d4_0) rfl (XS.iloadN X0.here hx rfl (D d4_1) rfl (st22 _ (XS.ifYes X22.here hx rfl (pc0 := 5) (pc' := 22) rfl (D d4_5) rfl ((if0 _ _).trans (feq (by decide : ¬ ((1 : Int32) = (0 : Int32)))).2) (by decide) (by decide) k)))) ?_
  exact Go.retV X22 hx hlk hret (D d4_22) (by decide) (by decide) (by rw [e22]; exact ⟨rfl, rfl, by simp⟩)
theorem pn_java_lang_Math_max__II_I : plainFor (⟨"java/lang/Math", "max", "(II)I"⟩ : MethodName) = true := Jvm.Free.JP.mathPlain rfl (by decide +kernel)
theorem pn_java_lang_Math_min__JJ_J : plainFor (⟨"java/lang/Math", "min", "(JJ)J"⟩ : MethodName) = true := Jvm.Free.JP.mathPlain rfl (by decide +kernel)
theorem d3_0 : decode prog_56_method_3_code 0 = .ok (.dload_n 1, 1) := by decide +kernel
theorem d3_1 : decode prog_56_method_3_code 1 = .ok (.iconst 0, 1) := by decide +kernel
theorem d3_2 : decode prog_56_method_3_code 2 = .ok (.ldc 39, 2) := by decide +kernel
theorem d3_4 : decode prog_56_method_3_code 4 = .ok (.invokestatic 41, 3) := by decide +kernel
theorem pd7 : parseMethodDescriptor "(DZLjava/lang/String;)V" = some ⟨[.double, .boolean, (.object "java/lang/String")], none⟩ := by decide +kernel
theorem d3_7 : decode prog_56_method_3_code 7 = .ok (.aload_n 0, 1) := by decide +kernel
theorem d3_8 : decode prog_56_method_3_code 8 = .ok (.getfield 25, 3) := by decide +kernel
theorem d3_11 : decode prog_56_method_3_code 11 = .ok (.dload_n 1, 1) := by decide +kernel
theorem d3_12 : decode prog_56_method_3_code 12 = .ok (.dadd, 1) := by decide +kernel
theorem own_fp8 : Jvm.Free.Fl.NoNaN64 (FP.dadd (0 : UInt64) (4607182418800017408 : UInt64)) ∧ FP.dadd (0 : UInt64) (4607182418800017408 : UInt64) = (4607182418800017408 : UInt64) := ⟨by unfold Jvm.Free.Fl.NoNaN64; decide +kernel, by decide +kernel⟩
theorem d3_13 : decode prog_56_method_3_code 13 = .ok (.ldc2_w 9, 3) := by decide +kernel
theorem d3_16 : decode prog_56_method_3_code 16 = .ok (.dcmp .l, 1) := by decide +kernel
theorem d3_17 : decode prog_56_method_3_code 17 = .ok (.ifCond .ne 37, 3) := by decide +kernel
theorem d3_54 : decode prog_56_method_3_code 54 = .ok (.aload_n 0, 1) := by decide +kernel
theorem d3_55 : decode prog_56_method_3_code 55 = .ok (.dup, 1) := by decide +kernel
theorem d3_56 : decode prog_56_method_3_code 56 = .ok (.getfield 21, 3) := by decide +kernel
theorem d3_59 : decode prog_56_method_3_code 59 = .ok (.iconst 1, 1) := by decide +kernel
theorem d3_60 : decode prog_56_method_3_code 60 = .ok (.iadd, 1) := by decide +kernel
theorem d3_61 : decode prog_56_method_3_code 61 = .ok (.putfield 21, 3) := by decide +kernel
theorem d3_64 : decode prog_56_method_3_code 64 = .ok (.aload_n 0, 1) := by decide +kernel
theorem d3_65 : decode prog_56_method_3_code 65 = .ok (.dup, 1) := by decide +kernel
theorem d3_66 : decode prog_56_method_3_code 66 = .ok (.getfield 25, 3) := by decide +kernel
theorem d3_69 : decode prog_56_method_3_code 69 = .ok (.dload_n 1, 1) := by decide +kernel
theorem d3_70 : decode prog_56_method_3_code 70 = .ok (.dadd, 1) := by decide +kernel
theorem d3_71 : decode prog_56_method_3_code 71 = .ok (.putfield 25, 3) := by decide +kernel
theorem d3_74 : decode prog_56_method_3_code 74 = .ok (.aload_n 0, 1) := by decide +kernel
theorem d3_75 : decode prog_56_method_3_code 75 = .ok (.aload_n 0, 1) := by decide +kernel
theorem d3_76 : decode prog_56_method_3_code 76 = .ok (.getfield 11, 3) := by decide +kernel
theorem d3_79 : decode prog_56_method_3_code 79 = .ok (.dload_n 1, 1) := by decide +kernel
theorem d3_80 : decode prog_56_method_3_code 80 = .ok (.invokestatic 64, 3) := by decide +kernel
theorem pd9 : parseMethodDescriptor "(DD)D" = some ⟨[.double, .double], some .double⟩ := by decide +kernel
theorem d3_83 : decode prog_56_method_3_code 83 = .ok (.putfield 11, 3) := by decide +kernel
theorem d3_86 : decode prog_56_method_3_code 86 = .ok (.iload_n 3, 1) := by decide +kernel
theorem d3_87 : decode prog_56_method_3_code 87 = .ok (.ifCond .eq 55, 3) := by decide +kernel
theorem d3_90 : decode prog_56_method_3_code 90 = .ok (.aload_n 0, 1) := by decide +kernel
theorem d3_91 : decode prog_56_method_3_code 91 = .ok (.getfield 36, 3) := by decide +kernel
theorem d3_94 : decode prog_56_method_3_code 94 = .ok (.aload_n 0, 1) := by decide +kernel
theorem d3_95 : decode prog_56_method_3_code 95 = .ok (.getfield 17, 3) := by decide +kernel
theorem d3_98 : decode prog_56_method_3_code 98 = .ok (.arraylength, 1) := by decide +kernel
theorem d3_99 : decode prog_56_method_3_code 99 = .ok (.if_icmp .ne 20, 3) := by decide +kernel
theorem d3_119 : decode prog_56_method_3_code 119 = .ok (.aload_n 0, 1) := by decide +kernel
theorem d3_120 : decode prog_56_method_3_code 120 = .ok (.getfield 17, 3) := by decide +kernel
theorem d3_123 : decode prog_56_method_3_code 123 = .ok (.aload_n 0, 1) := by decide +kernel
theorem d3_124 : decode prog_56_method_3_code 124 = .ok (.getfield 36, 3) := by decide +kernel
theorem d3_127 : decode prog_56_method_3_code 127 = .ok (.dload_n 1, 1) := by decide +kernel
theorem d3_128 : decode prog_56_method_3_code 128 = .ok (.dastore, 1) := by decide +kernel
theorem d3_129 : decode prog_56_method_3_code 129 = .ok (.aload_n 0, 1) := by decide +kernel
theorem d3_130 : decode prog_56_method_3_code 130 = .ok (.dup, 1) := by decide +kernel
theorem d3_131 : decode prog_56_method_3_code 131 = .ok (.getfield 36, 3) := by decide +kernel
theorem d3_134 : decode prog_56_method_3_code 134 = .ok (.iconst 1, 1) := by decide +kernel
theorem d3_135 : decode prog_56_method_3_code 135 = .ok (.iadd, 1) := by decide +kernel
theorem d3_136 : decode prog_56_method_3_code 136 = .ok (.putfield 36, 3) := by decide +kernel
theorem d3_139 : decode prog_56_method_3_code 139 = .ok (.goto 13, 3) := by decide +kernel
theorem d3_152 : decode prog_56_method_3_code 152 = .ok (.return_, 1) := by decide +kernel
abbrev own_m10 : MethodName := (⟨"com/example/hernieuw/hernieuw/estimation/FetchHistory", "add", "(DZ)V"⟩ : MethodName)
theorem ef_rm_add (m : MethodId) (ob : Addr) : entryFrame m #[(.ref ob), (.double (4607182418800017408 : UInt64)), (.int (1 : Int32))] 4 = mkF m 0 #[rv ob, .val (.double (4607182418800017408 : UInt64)), .second, iv (1 : Int32)] [] := by first | (simp [entryFrame, mkF, argsToLocals, Value.category]; done) | rfl
theorem pn11 : plainFor (⟨"com/example/hernieuw/hernieuw/estimation/FetchHistory", "add", "(DZ)V"⟩ : MethodName) = true := by first | exact plainFor_of_name (by first | (simp [plainName, overriddenIn]; done) | decide +kernel) | decide +kernel
set_option maxRecDepth 65536 in
set_option maxHeartbeats 40000000 in
theorem rm_add {l : Launch} {Z : State} {a0 : Array Value} {A : Nat → Addr} {KC : Nat → Cell} {IC : Nat → Int32} {VC : Nat → Value} (hw : ∀ d ∈ tables_1, d.before a0 Z = true) (G : own_Ctx Z A KC IC VC) (ob : Addr) (ar : Addr) (ka : ClassId) (h0 : Heap) (O0 : Ext Z.heap h0) (prem0 : Exa Z h0 ob "com/example/hernieuw/hernieuw/estimation/FetchHistory") (prem1 : Fld Z h0 ob "com/example/hernieuw/hernieuw/estimation/FetchHistory" "fetches" "I" (.int (0 : Int32))) (prem2 : Fld Z h0 ob "com/example/hernieuw/hernieuw/estimation/FetchHistory" "days" "D" (.double (0 : UInt64))) (prem3 : Fld Z h0 ob "com/example/hernieuw/hernieuw/estimation/FetchHistory" "unchangedDays" "D" (.double (0 : UInt64))) (prem4 : Fld Z h0 ob "com/example/hernieuw/hernieuw/estimation/FetchHistory" "shortestInterval" "D" (.double (9218868437227405312 : UInt64))) (prem5 : Fld Z h0 ob "com/example/hernieuw/hernieuw/estimation/FetchHistory" "changedIntervals" "[D" (.ref ar)) (prem6 : Fld Z h0 ob "com/example/hernieuw/hernieuw/estimation/FetchHistory" "changes" "I" (.int (0 : Int32))) (prem7 : Arv Z h0 ar ka .double (4 : Int32) [(.double (0 : UInt64)), (.double (0 : UInt64)), (.double (0 : UInt64)), (.double (0 : UInt64))] (.double (0 : UInt64))) (prem8 : Exa Z h0 ar "[D") (prem9 : Z.heap.size ≤ ob) (prem10 : Z.heap.size ≤ ar) (prem11 : ob ≠ ar) :
    OkS l Z own_EL own_m10 prog_56_method_3_code 4 none ({ frames := 2, cells := 2, slots := 36, locals := 29 } : Room) #[(.ref ob), (.double (4607182418800017408 : UInt64)), (.int (1 : Int32))] h0
      (fun v h L => v = none ∧ (Fr Z.heap.size L) ∧ (Keep h0 h [ob, ar]) ∧ (Fld Z h ob "com/example/hernieuw/hernieuw/estimation/FetchHistory" "fetches" "I" (.int (1 : Int32))) ∧ (Fld Z h ob "com/example/hernieuw/hernieuw/estimation/FetchHistory" "days" "D" (.double (4607182418800017408 : UInt64))) ∧ (Fld Z h ob "com/example/hernieuw/hernieuw/estimation/FetchHistory" "unchangedDays" "D" (.double (0 : UInt64))) ∧ (Fld Z h ob "com/example/hernieuw/hernieuw/estimation/FetchHistory" "shortestInterval" "D" (.double (4607182418800017408 : UInt64))) ∧ (Fld Z h ob "com/example/hernieuw/hernieuw/estimation/FetchHistory" "changedIntervals" "[D" (.ref ar)) ∧ (Fld Z h ob "com/example/hernieuw/hernieuw/estimation/FetchHistory" "changes" "I" (.int (1 : Int32))) ∧ (Arv Z h ar ka .double (4 : Int32) [(.double (4607182418800017408 : UInt64)), (.double (0 : UInt64)), (.double (0 : UInt64)), (.double (0 : UInt64))] (.double (0 : UInt64)))) := by
  refine OkS.mk pn11 ?_
  intro p e s m below meth c T0 hx hby hml hown hnm hret hlk hZ e0 C0 hS X0
  have hk := Nat.zero_le h0.size
  have hEL := own_EW hw
  refine GoS.cast (ef_rm_add m ob) ?_
  have D := @hb _ _ hby
  have N0 := Fr.nil Z.heap.size
  have K0 : Keep h0 h0 [ob, ar] := Keep.refl _ _
  refine GoS.of (T' := T0) (f' := (mkF m 2 #[rv ob, .val (.double (4607182418800017408 : UInt64)), .second, iv 1] [(.int 0), (.double (4607182418800017408 : UInt64))])) (fun _ k => XS.dloadN X0.here hx rfl (D d3_0) rfl (XS.iconst X0.here hx rfl (D d3_1) k)) ?_
  obtain ⟨c24, T24, h24, k124, X24, e24, E24, hS, hk24, hZ, hown, Cq24, -, st24⟩ := ldcOH X0 hx hZ hown (own_w hw (i := 25) rfl) (own_wS hw) e0 hS hk hEL C0.1 (g := (mkF m 2 #[rv ob, .val (.double (4607182418800017408 : UInt64)), .second, iv 1] [(.int 0), (.double (4607182418800017408 : UInt64))])) rfl (D d3_2) (n := 32) (by decide +kernel) (by decide) (by decide) (by decide)
  have O24 := Old0.ext O0 E24
  have K24 := Keep.ext K0 E24
  have C24 := CHr.trans C0 Cq24
  have hk := hk24
  obtain ⟨T25, v25, L25, X25, q25, st25⟩ := callSt X24 hx hZ (y := own_m5) hown (own_w hw (i := 33) rfl) (own_w hw (i := 34) rfl) (own_w hw (i := 35) rfl) (own_w hw (i := 36) rfl) (by decide) (rm_req hw G c24  h24 O24 ) e24 (W := 0) (by decide) (by decide) (by decide) (by decide) (g := (mkF m 4 #[rv ob, .val (.double (4607182418800017408 : UInt64)), .second, iv 1] [(.ref c24), (.int 0), (.double (4607182418800017408 : UInt64))])) rfl (by rw [hml]; rfl) (argsL := [(.double (4607182418800017408 : UInt64)), (.int 0), (.ref c24)]) (rest := []) (lenOf pd7 rfl) rfl rfl (Nat.le_of_eq rfl) (D d3_4)
  obtain ⟨rfl, e25, rfl⟩ := q25
  have N25 := Fr.app N0 (Fr.nil _)
  have f27 : Fld Z h24 ob "com/example/hernieuw/hernieuw/estimation/FetchHistory" "days" "D" (.double (0 : UInt64)) := (Fld.ext E24 prem2)
  obtain ⟨T26, X26, e26, st26⟩ := getF X25 hx hZ hown (host := "") (Or.inl (own_w hw (i := 41) rfl)) Via.refl e25 f27 (g := (mkF m 8 #[rv ob, .val (.double (4607182418800017408 : UInt64)), .second, iv 1] [(.ref ob)])) rfl rfl (D d3_8)
  have f30 : Fld Z h24 ob "com/example/hernieuw/hernieuw/estimation/FetchHistory" "fetches" "I" (.int 0) := (Fld.ext E24 prem1)
  obtain ⟨T29, X29, e29, st29⟩ := getF X26 hx hZ hown (host := "") (Or.inl (own_w hw (i := 43) rfl)) Via.refl e26 f30 (g := (mkF m 56 #[rv ob, .val (.double (4607182418800017408 : UInt64)), .second, iv 1] [(.ref ob), (.ref ob)])) rfl rfl (D d3_56)
  have f32 : Exa Z h24 ob "com/example/hernieuw/hernieuw/estimation/FetchHistory" := (Exa.ext E24 prem0)
  obtain ⟨T31, h31, X31, e31, W31, st31⟩ := putF X29 hx hZ hown (host := "") (Or.inl (own_w hw (i := 43) rfl)) Via.refl e29 f30 f32 (Or.inl (own_w hw (i := 44) rfl)) (own_w hw (i := 6) rfl) (ty := .int) (by decide) rfl rfl (g := (mkF m 61 #[rv ob, .val (.double (4607182418800017408 : UInt64)), .second, iv 1] [(.int 1), (.ref ob)])) rfl rfl (D d3_61)
  have O34 := Old0.wr O24 W31 prem9
  have K34 := Keep.wr K24 W31 (Or.inl (List.mem_of_getElem? (i := 0) rfl))
  have C33 := CHr.trans C24 (CHr.wr W31 (Safe.exa hZ.alike f32 (by decide) (by decide)) C24.1)
  have hk := Nat.le_trans hk (Keep.of_wr W31).1
  have N31 := Fr.snoc X31 N25 prem9
  have f31 : Fld Z h31 ob "com/example/hernieuw/hernieuw/estimation/FetchHistory" "fetches" "I" (.int 1) := Fld.same W31 f30
  have f36 : Fld Z h31 ob "com/example/hernieuw/hernieuw/estimation/FetchHistory" "days" "D" (.double (0 : UInt64)) := (Fld.other W31 f27 (Or.inr (slot_ne (Or.inl (own_w hw (i := 42) rfl)) (Or.inl (own_w hw (i := 44) rfl)) (by decide) (t := .double) (t' := .int) (by decide) (by decide))))
  obtain ⟨T35, X35, e35, st35⟩ := getF X31 hx hZ hown (host := "") (Or.inl (own_w hw (i := 41) rfl)) Via.refl e31 f36 (g := (mkF m 66 #[rv ob, .val (.double (4607182418800017408 : UInt64)), .second, iv 1] [(.ref ob), (.ref ob)])) rfl rfl (D d3_66)
  have f38 : Exa Z h31 ob "com/example/hernieuw/hernieuw/estimation/FetchHistory" := (Exa.wr W31 f32)
  obtain ⟨T37, h37, X37, e37, W37, st37⟩ := putF X35 hx hZ hown (host := "") (Or.inl (own_w hw (i := 41) rfl)) Via.refl e35 f36 f38 (Or.inl (own_w hw (i := 42) rfl)) (own_w hw (i := 6) rfl) (ty := .double) (by decide) rfl rfl (g := (mkF m 71 #[rv ob, .val (.double (4607182418800017408 : UInt64)), .second, iv 1] [(.double (4607182418800017408 : UInt64)), (.ref ob)])) rfl rfl (D d3_71)
  have O40 := Old0.wr O34 W37 prem9
  have K40 := Keep.wr K34 W37 (Or.inl (List.mem_of_getElem? (i := 0) rfl))
  have C39 := CHr.trans C33 (CHr.wr W37 (Safe.exa hZ.alike f38 (by decide) (by decide)) C33.1)
  have hk := Nat.le_trans hk (Keep.of_wr W37).1
  have N37 := Fr.snoc X37 N31 prem9
  have f37 : Fld Z h37 ob "com/example/hernieuw/hernieuw/estimation/FetchHistory" "days" "D" (.double (4607182418800017408 : UInt64)) := Fld.same W37 f36
  have f42 : Fld Z h37 ob "com/example/hernieuw/hernieuw/estimation/FetchHistory" "shortestInterval" "D" (.double (9218868437227405312 : UInt64)) := (Fld.other W37 (Fld.other W31 (Fld.ext E24 prem4) (Or.inr (slot_ne (Or.inl (own_w hw (i := 16) rfl)) (Or.inl (own_w hw (i := 44) rfl)) (by decide) (t := .double) (t' := .int) (by decide) (by decide)))) (Or.inr (slot_ne (Or.inl (own_w hw (i := 16) rfl)) (Or.inl (own_w hw (i := 42) rfl)) (by decide) (t := .double) (t' := .double) (by decide) (by decide))))
  obtain ⟨T41, X41, e41, st41⟩ := getF X37 hx hZ hown (host := "") (Or.inl (own_w hw (i := 15) rfl)) Via.refl e37 f42 (g := (mkF m 76 #[rv ob, .val (.double (4607182418800017408 : UInt64)), .second, iv 1] [(.ref ob), (.ref ob)])) rfl rfl (D d3_76)
  refine GoS.of (T' := T41) (f' := (mkF m 79 #[rv ob, .val (.double (4607182418800017408 : UInt64)), .second, iv 1] [(.double (9218868437227405312 : UInt64)), (.ref ob)])) (fun _ k => st24 _ (st25 _ (XS.aloadN X25.here hx rfl (D d3_7) rfl rfl (st26 _ (XS.dloadN X26.here hx rfl (D d3_11) rfl (XS.daddS X26.here hx rfl (D d3_12) rfl (v := (4607182418800017408 : UInt64)) own_fp8.1 own_fp8.2 (X26.ldc2DoubleC hx hown (mvT hZ (own_w hw (i := 14) rfl)) (g := (mkF m 13 #[rv ob, .val (.double (4607182418800017408 : UInt64)), .second, iv 1] [(.double (4607182418800017408 : UInt64))])) rfl (D d3_13) _ (XS.dcmpS X26.here hx rfl (D d3_16) rfl (v := (-1 : Int32)) (by decide +kernel) (XS.ifYes X26.here hx rfl (pc0 := 17) (pc' := 54) rfl (D d3_17) rfl ((if0 _ _).trans (feq (by decide : ¬ ((-1 : Int32) = (0 : Int32)))).2) (by decide) (by decide) (XS.aloadN X26.here hx rfl (D d3_54) rfl rfl (XS.dup X26.here hx rfl (D d3_55) rfl rfl (st29 _ (XS.iconst X29.here hx rfl (D d3_59) (XS.iadd X29.here hx rfl (D d3_60) rfl (st31 _ (XS.aloadN X31.here hx rfl (D d3_64) rfl rfl (XS.dup X31.here hx rfl (D d3_65) rfl rfl (st35 _ (XS.dloadN X35.here hx rfl (D d3_69) rfl (XS.daddS X35.here hx rfl (D d3_70) rfl (v := (4607182418800017408 : UInt64)) own_fp8.1 own_fp8.2 (st37 _ (XS.aloadN X37.here hx rfl (D d3_74) rfl rfl (XS.aloadN X37.here hx rfl (D d3_75) rfl rfl (st41 _ k)))))))))))))))))))))))) ?_
  obtain ⟨T43, X43, e43, st43⟩ := natS X41 hx hZ hown (own_w hw (i := 45) rfl) (own_w hw (i := 46) rfl) (own_w hw (i := 3) rfl) (own_w hw (i := 47) rfl) (by decide) e41 (W := 1) (F := fun a' => a' = #[.double (9218868437227405312 : UInt64), .double (4607182418800017408 : UInt64)] ∧ Jvm.Free.Fl.NoNaN64 (9218868437227405312 : UInt64) ∧ Jvm.Free.Fl.NoNaN64 (4607182418800017408 : UInt64)) (val' := .double (4607182418800017408 : UInt64)) (fun c4 => Jvm.Free.Fl.Abs.minD_pays (9218868437227405312 : UInt64) (4607182418800017408 : UInt64) c4 (by decide) (by decide)) (g := (mkF m 80 #[rv ob, .val (.double (4607182418800017408 : UInt64)), .second, iv 1] [(.double (4607182418800017408 : UInt64)), (.double (9218868437227405312 : UInt64)), (.ref ob)])) rfl (by rw [hml]; rfl) (argsL := [.double (9218868437227405312 : UInt64), .double (4607182418800017408 : UInt64)]) (rest := [(.ref ob)]) (lenOf pd9 rfl) rfl (Nat.le_of_eq rfl) (D d3_80) (by decide) (by decide) ⟨rfl, (by unfold Jvm.Free.Fl.NoNaN64; decide +kernel), (by unfold Jvm.Free.Fl.NoNaN64; decide +kernel)⟩ (congrArg Value.double (by decide +kernel : Jvm.Native.java_lang_Math.nans.pick64 false (9218868437227405312 : UInt64) (4607182418800017408 : UInt64) = (4607182418800017408 : UInt64)))
  have f45 : Exa Z h37 ob "com/example/hernieuw/hernieuw/estimation/FetchHistory" := (Exa.wr W37 f38)
  obtain ⟨T44, h44, X44, e44, W44, st44⟩ := putF X43 hx hZ hown (host := "") (Or.inl (own_w hw (i := 15) rfl)) Via.refl e43 f42 f45 (Or.inl (own_w hw (i := 16) rfl)) (own_w hw (i := 6) rfl) (ty := .double) (by decide) rfl rfl (g := (mkF m 83 #[rv ob, .val (.double (4607182418800017408 : UInt64)), .second, iv 1] [(.double (4607182418800017408 : UInt64)), (.ref ob)])) rfl rfl (D d3_83)
  have O47 := Old0.wr O40 W44 prem9
  have K47 := Keep.wr K40 W44 (Or.inl (List.mem_of_getElem? (i := 0) rfl))
  have C46 := CHr.trans C39 (CHr.wr W44 (Safe.exa hZ.alike f45 (by decide) (by decide)) C39.1)
  have hk := Nat.le_trans hk (Keep.of_wr W44).1
  have N44 := Fr.snoc X44 N37 prem9
  have f44 : Fld Z h44 ob "com/example/hernieuw/hernieuw/estimation/FetchHistory" "shortestInterval" "D" (.double (4607182418800017408 : UInt64)) := Fld.same W44 f42
  have f50 : Fld Z h44 ob "com/example/hernieuw/hernieuw/estimation/FetchHistory" "changes" "I" (.int 0) := (Fld.other W44 (Fld.other W37 (Fld.other W31 (Fld.ext E24 prem6) (Or.inr (slot_ne (Or.inl (own_w hw (i := 49) rfl)) (Or.inl (own_w hw (i := 44) rfl)) (by decide) (t := .int) (t' := .int) (by decide) (by decide)))) (Or.inr (slot_ne (Or.inl (own_w hw (i := 49) rfl)) (Or.inl (own_w hw (i := 42) rfl)) (by decide) (t := .int) (t' := .double) (by decide) (by decide)))) (Or.inr (slot_ne (Or.inl (own_w hw (i := 49) rfl)) (Or.inl (own_w hw (i := 16) rfl)) (by decide) (t := .int) (t' := .double) (by decide) (by decide))))
  obtain ⟨T49, X49, e49, st49⟩ := getF X44 hx hZ hown (host := "") (Or.inl (own_w hw (i := 48) rfl)) Via.refl e44 f50 (g := (mkF m 91 #[rv ob, .val (.double (4607182418800017408 : UInt64)), .second, iv 1] [(.ref ob)])) rfl rfl (D d3_91)
  have f52 : Fld Z h44 ob "com/example/hernieuw/hernieuw/estimation/FetchHistory" "changedIntervals" "[D" (.ref ar) := (Fld.other W44 (Fld.other W37 (Fld.other W31 (Fld.ext E24 prem5) (Or.inr (slot_ne (Or.inl (own_w hw (i := 19) rfl)) (Or.inl (own_w hw (i := 44) rfl)) (by decide) (t := (.array .double)) (t' := .int) (by decide) (by decide)))) (Or.inr (slot_ne (Or.inl (own_w hw (i := 19) rfl)) (Or.inl (own_w hw (i := 42) rfl)) (by decide) (t := (.array .double)) (t' := .double) (by decide) (by decide)))) (Or.inr (slot_ne (Or.inl (own_w hw (i := 19) rfl)) (Or.inl (own_w hw (i := 16) rfl)) (by decide) (t := (.array .double)) (t' := .double) (by decide) (by decide))))
  obtain ⟨T51, X51, e51, st51⟩ := getF X49 hx hZ hown (host := "") (Or.inl (own_w hw (i := 18) rfl)) Via.refl e49 f52 (g := (mkF m 95 #[rv ob, .val (.double (4607182418800017408 : UInt64)), .second, iv 1] [(.ref ob), (.int 0)])) rfl rfl (D d3_95)
  have f54 : Arv Z h44 ar ka .double (4 : Int32) [(.double (0 : UInt64)), (.double (0 : UInt64)), (.double (0 : UInt64)), (.double (0 : UInt64))] (.double (0 : UInt64)) := (Arv.other (Arv.other (Arv.other (Arv.ext prem7 E24) W31 (Ne.symm prem11)) W37 (Ne.symm prem11)) W44 (Ne.symm prem11))
  obtain ⟨cl53, Ar53, qk53, S53, Ng53, H53, G53⟩ := id f54
  obtain ⟨T56, X56, e56, st56⟩ := getF X51 hx hZ hown (host := "") (Or.inl (own_w hw (i := 18) rfl)) Via.refl e51 f52 (g := (mkF m 120 #[rv ob, .val (.double (4607182418800017408 : UInt64)), .second, iv 1] [(.ref ob)])) rfl rfl (D d3_120)
  obtain ⟨T57, X57, e57, st57⟩ := getF X56 hx hZ hown (host := "") (Or.inl (own_w hw (i := 48) rfl)) Via.refl e56 f50 (g := (mkF m 124 #[rv ob, .val (.double (4607182418800017408 : UInt64)), .second, iv 1] [(.ref ob), (.ref ar)])) rfl rfl (D d3_124)
  obtain ⟨cl58, Ar58, qk58, S58, Ng58, H58, G58⟩ := id f54
  obtain ⟨T58, h58, X58, e58, W58, st58⟩ := stD X57 hx hZ e57 Ar58 (j := (0 : Int32)) (inb_of S58 ⟨by decide, by decide⟩) (g := (mkF m 128 #[rv ob, .val (.double (4607182418800017408 : UInt64)), .second, iv 1] [(.double (4607182418800017408 : UInt64)), (.int 0), (.ref ar)])) rfl rfl (D d3_128)
  have f60 : Exa Z h44 ar "[D" := (Exa.wr W44 (Exa.wr W37 (Exa.wr W31 (Exa.ext E24 prem8))))
  have O61 := Old0.wr O47 W58 prem10
  have K61 := Keep.wr K47 W58 (Or.inl (List.mem_of_getElem? (i := 1) rfl))
  have C59 := CHr.trans C46 (CHr.wr W58 (Safe.exa hZ.alike f60 (by decide) (by decide)) C46.1)
  have hk := Nat.le_trans hk (Keep.of_wr W58).1
  have f58 : Arv Z h58 ar ka .double (4 : Int32) [(.double (4607182418800017408 : UInt64)), (.double (0 : UInt64)), (.double (0 : UInt64)), (.double (0 : UInt64))] (.double (0 : UInt64)) := Arv.set Ar58 qk58 S58 Ng58 H58 G58 (v := (.double (4607182418800017408 : UInt64))) rfl W58 0 rfl (Nat.le_of_ble_eq_true rfl)
  have N58 := Fr.snoc X58 N44 prem10
  have f63 : Fld Z h58 ob "com/example/hernieuw/hernieuw/estimation/FetchHistory" "changes" "I" (.int 0) := (Fld.other W58 f50 (Or.inl prem11))
  obtain ⟨T62, X62, e62, st62⟩ := getF X58 hx hZ hown (host := "") (Or.inl (own_w hw (i := 48) rfl)) Via.refl e58 f63 (g := (mkF m 131 #[rv ob, .val (.double (4607182418800017408 : UInt64)), .second, iv 1] [(.ref ob), (.ref ob)])) rfl rfl (D d3_131)
  have f65 : Exa Z h58 ob "com/example/hernieuw/hernieuw/estimation/FetchHistory" := (Exa.wr W58 (Exa.wr W44 f45))
  obtain ⟨T64, h64, X64, e64, W64, st64⟩ := putF X62 hx hZ hown (host := "") (Or.inl (own_w hw (i := 48) rfl)) Via.refl e62 f63 f65 (Or.inl (own_w hw (i := 49) rfl)) (own_w hw (i := 6) rfl) (ty := .int) (by decide) rfl rfl (g := (mkF m 136 #[rv ob, .val (.double (4607182418800017408 : UInt64)), .second, iv 1] [(.int 1), (.ref ob)])) rfl rfl (D d3_136)
  have O67 := Old0.wr O61 W64 prem9
  have K67 := Keep.wr K61 W64 (Or.inl (List.mem_of_getElem? (i := 0) rfl))
  have C66 := CHr.trans C59 (CHr.wr W64 (Safe.exa hZ.alike f65 (by decide) (by decide)) C59.1)
  have hk := Nat.le_trans hk (Keep.of_wr W64).1
  have N64 := Fr.snoc X64 N58 prem9
  have f64 : Fld Z h64 ob "com/example/hernieuw/hernieuw/estimation/FetchHistory" "changes" "I" (.int 1) := Fld.same W64 f63
  refine GoS.of (T' := T64) (f' := (mkF m 152 #[rv ob, .val (.double (4607182418800017408 : UInt64)), .second, iv 1] [])) (fun _ k => XS.dloadN X41.here hx rfl (D d3_79) rfl (st43 _ (st44 _ (XS.iloadN X44.here hx rfl (D d3_86) rfl (XS.ifNo X44.here hx rfl (D d3_87) rfl ((if0 _ _).trans (feq (by decide : ¬ ((1 : Int32) = (0 : Int32)))).1) (XS.aloadN X44.here hx rfl (D d3_90) rfl rfl (st49 _ (XS.aloadN X49.here hx rfl (D d3_94) rfl rfl (st51 _ (X51.arraylength hx (by rw [e51]; exact Ar53.1) (State.isArrayOf_alike hZ.alike Ar53.2.1) (g := (mkF m 98 #[rv ob, .val (.double (4607182418800017408 : UInt64)), .second, iv 1] [(.ref ar), (.int 0)])) rfl rfl (D d3_98) _ (by rw [len_of S53 Ng53]; exact (XS.icmpYes X51.here hx rfl (pc0 := 99) (pc' := 119) rfl (D d3_99) rfl (feq (by decide : ¬ ((0 : Int32) = (4 : Int32)))).2 (by decide) (by decide) (XS.aloadN X51.here hx rfl (D d3_119) rfl rfl (st56 _ (XS.aloadN X56.here hx rfl (D d3_123) rfl rfl (st57 _ (XS.dloadN X57.here hx rfl (D d3_127) rfl (st58 _ (XS.aloadN X58.here hx rfl (D d3_129) rfl rfl (XS.dup X58.here hx rfl (D d3_130) rfl rfl (st62 _ (XS.iconst X62.here hx rfl (D d3_134) (XS.iadd X62.here hx rfl (D d3_135) rfl (st64 _ (XS.goto X64.here hx rfl (pc0 := 139) (pc' := 152) rfl (D d3_139) (by decide) (by decide) k))))))))))))))))))))))))) ?_
  have f68 : Fld Z h64 ob "com/example/hernieuw/hernieuw/estimation/FetchHistory" "fetches" "I" (.int 1) := (Fld.other W64 (Fld.other W58 (Fld.other W44 (Fld.other W37 f31 (Or.inr (slot_ne (Or.inl (own_w hw (i := 44) rfl)) (Or.inl (own_w hw (i := 42) rfl)) (by decide) (t := .int) (t' := .double) (by decide) (by decide)))) (Or.inr (slot_ne (Or.inl (own_w hw (i := 44) rfl)) (Or.inl (own_w hw (i := 16) rfl)) (by decide) (t := .int) (t' := .double) (by decide) (by decide)))) (Or.inl prem11)) (Or.inr (slot_ne (Or.inl (own_w hw (i := 44) rfl)) (Or.inl (own_w hw (i := 49) rfl)) (by decide) (t := .int) (t' := .int) (by decide) (by decide))))
  have f69 : Fld Z h64 ob "com/example/hernieuw/hernieuw/estimation/FetchHistory" "days" "D" (.double (4607182418800017408 : UInt64)) := (Fld.other W64 (Fld.other W58 (Fld.other W44 f37 (Or.inr (slot_ne (Or.inl (own_w hw (i := 42) rfl)) (Or.inl (own_w hw (i := 16) rfl)) (by decide) (t := .double) (t' := .double) (by decide) (by decide)))) (Or.inl prem11)) (Or.inr (slot_ne (Or.inl (own_w hw (i := 42) rfl)) (Or.inl (own_w hw (i := 49) rfl)) (by decide) (t := .double) (t' := .int) (by decide) (by decide))))
  have f70 : Fld Z h64 ob "com/example/hernieuw/hernieuw/estimation/FetchHistory" "unchangedDays" "D" (.double (0 : UInt64)) := (Fld.other W64 (Fld.other W58 (Fld.other W44 (Fld.other W37 (Fld.other W31 (Fld.ext E24 prem3) (Or.inr (slot_ne (Or.inl (own_w hw (i := 108) rfl)) (Or.inl (own_w hw (i := 44) rfl)) (by decide) (t := .double) (t' := .int) (by decide) (by decide)))) (Or.inr (slot_ne (Or.inl (own_w hw (i := 108) rfl)) (Or.inl (own_w hw (i := 42) rfl)) (by decide) (t := .double) (t' := .double) (by decide) (by decide)))) (Or.inr (slot_ne (Or.inl (own_w hw (i := 108) rfl)) (Or.inl (own_w hw (i := 16) rfl)) (by decide) (t := .double) (t' := .double) (by decide) (by decide)))) (Or.inl prem11)) (Or.inr (slot_ne (Or.inl (own_w hw (i := 108) rfl)) (Or.inl (own_w hw (i := 49) rfl)) (by decide) (t := .double) (t' := .int) (by decide) (by decide))))
  have f71 : Fld Z h64 ob "com/example/hernieuw/hernieuw/estimation/FetchHistory" "shortestInterval" "D" (.double (4607182418800017408 : UInt64)) := (Fld.other W64 (Fld.other W58 f44 (Or.inl prem11)) (Or.inr (slot_ne (Or.inl (own_w hw (i := 16) rfl)) (Or.inl (own_w hw (i := 49) rfl)) (by decide) (t := .double) (t' := .int) (by decide) (by decide))))
  have f72 : Fld Z h64 ob "com/example/hernieuw/hernieuw/estimation/FetchHistory" "changedIntervals" "[D" (.ref ar) := (Fld.other W64 (Fld.other W58 f52 (Or.inl prem11)) (Or.inr (slot_ne (Or.inl (own_w hw (i := 19) rfl)) (Or.inl (own_w hw (i := 49) rfl)) (by decide) (t := (.array .double)) (t' := .int) (by decide) (by decide))))
  have f73 : Arv Z h64 ar ka .double (4 : Int32) [(.double (4607182418800017408 : UInt64)), (.double (0 : UInt64)), (.double (0 : UInt64)), (.double (0 : UInt64))] (.double (0 : UInt64)) := (Arv.other f58 W64 (Ne.symm prem11))
  exact GoS.retV X64 hx hlk hS hk hZ hEL C66 e64 hret (D d3_152) (by decide) (by decide) (by rw [e64]; exact ⟨rfl, N64, K67, f68, f69, f70, f71, f72, f64, f73⟩)
theorem d11_0 : decode prog_56_method_4_code 0 = .ok (.aload_n 0, 1) := by decide +kernel
theorem d11_1 : decode prog_56_method_4_code 1 = .ok (.getfield 21, 3) := by decide +kernel
theorem d11_4 : decode prog_56_method_4_code 4 = .ok (.ireturn, 1) := by decide +kernel
abbrev own_m12 : MethodName := (⟨"com/example/hernieuw/hernieuw/estimation/FetchHistory", "fetches", "()I"⟩ : MethodName)
theorem ef_rm_fetches (m : MethodId) (fh : Addr) : entryFrame m #[(.ref fh)] 1 = mkF m 0 #[rv fh] [] := by first | (simp [entryFrame, mkF, argsToLocals, Value.category]; done) | rfl
theorem pn13 : plainFor (⟨"com/example/hernieuw/hernieuw/estimation/FetchHistory", "fetches", "()I"⟩ : MethodName) = true := by first | exact plainFor_of_name (by first | (simp [plainName, overriddenIn]; done) | decide +kernel) | decide +kernel
set_option maxRecDepth 65536 in
set_option maxHeartbeats 40000000 in
theorem rm_fetches {l : Launch} {Z : State} {a0 : Array Value} {A : Nat → Addr} {KC : Nat → Cell} {IC : Nat → Int32} {VC : Nat → Value} (hw : ∀ d ∈ tables_1, d.before a0 Z = true) (G : own_Ctx Z A KC IC VC) (fh : Addr)  (h0 : Heap) (O0 : Ext Z.heap h0) (prem0 : Fld Z h0 fh "com/example/hernieuw/hernieuw/estimation/FetchHistory" "fetches" "I" (.int (1 : Int32))) :
    Ok l Z own_m12 prog_56_method_4_code 1 (some .int) ({ frames := 0, cells := 0, slots := 0, locals := 0 } : Room) #[(.ref fh)] h0
      (fun v h L => v = some (.int (1 : Int32)) ∧ (h = h0) ∧ (L = [])) := by
  refine Ok.mk pn13 ?_
  intro p e s m below meth c T0 hx hby hml hown hnm hret hlk hZ e0 X0
  refine Go.cast (ef_rm_fetches m fh) ?_
  have D := @hb _ _ hby
  have N0 := Fr.nil Z.heap.size
  have K0 : Keep h0 h0 [] := Keep.refl _ _
  obtain ⟨T74, X74, e74, st74⟩ := getF X0 hx hZ hown (host := "") (Or.inl (own_w hw (i := 43) rfl)) Via.refl e0 prem0 (g := (mkF m 1 #[rv fh] [(.ref fh)])) rfl rfl (D d11_1)
  refine Go.of (T' := T74) (f' := (mkF m 4 #[rv fh] [(.int 1)])) (fun _ k => XS.aloadN X0.here hx rfl (D d11_0) rfl rfl (st74 _ k)) ?_
  exact Go.retI X74 hx hlk hret (D d11_4) (by decide) (by decide) (by rw [e74]; exact ⟨rfl, rfl, by simp⟩)
theorem d13_0 : decode prog_56_method_5_code 0 = .ok (.aload_n 0, 1) := by decide +kernel
theorem d13_1 : decode prog_56_method_5_code 1 = .ok (.getfield 36, 3) := by decide +kernel
theorem d13_4 : decode prog_56_method_5_code 4 = .ok (.ireturn, 1) := by decide +kernel
abbrev own_m14 : MethodName := (⟨"com/example/hernieuw/hernieuw/estimation/FetchHistory", "changes", "()I"⟩ : MethodName)
theorem ef_rm_changes (m : MethodId) (fh : Addr) : entryFrame m #[(.ref fh)] 1 = mkF m 0 #[rv fh] [] := by first | (simp [entryFrame, mkF, argsToLocals, Value.category]; done) | rfl
theorem pn15 : plainFor (⟨"com/example/hernieuw/hernieuw/estimation/FetchHistory", "changes", "()I"⟩ : MethodName) = true := by first | exact plainFor_of_name (by first | (simp [plainName, overriddenIn]; done) | decide +kernel) | decide +kernel
set_option maxRecDepth 65536 in
set_option maxHeartbeats 40000000 in
theorem rm_changes {l : Launch} {Z : State} {a0 : Array Value} {A : Nat → Addr} {KC : Nat → Cell} {IC : Nat → Int32} {VC : Nat → Value} (hw : ∀ d ∈ tables_1, d.before a0 Z = true) (G : own_Ctx Z A KC IC VC) (fh : Addr)  (h0 : Heap) (O0 : Ext Z.heap h0) (prem0 : Fld Z h0 fh "com/example/hernieuw/hernieuw/estimation/FetchHistory" "changes" "I" (.int (1 : Int32))) :
    Ok l Z own_m14 prog_56_method_5_code 1 (some .int) ({ frames := 0, cells := 0, slots := 0, locals := 0 } : Room) #[(.ref fh)] h0
      (fun v h L => v = some (.int (1 : Int32)) ∧ (h = h0) ∧ (L = [])) := by
  refine Ok.mk pn15 ?_
  intro p e s m below meth c T0 hx hby hml hown hnm hret hlk hZ e0 X0
  refine Go.cast (ef_rm_changes m fh) ?_
  have D := @hb _ _ hby
  have N0 := Fr.nil Z.heap.size
  have K0 : Keep h0 h0 [] := Keep.refl _ _
  obtain ⟨T75, X75, e75, st75⟩ := getF X0 hx hZ hown (host := "") (Or.inl (own_w hw (i := 48) rfl)) Via.refl e0 prem0 (g := (mkF m 1 #[rv fh] [(.ref fh)])) rfl rfl (D d13_1)
  refine Go.of (T' := T75) (f' := (mkF m 4 #[rv fh] [(.int 1)])) (fun _ k => XS.aloadN X0.here hx rfl (D d13_0) rfl rfl (st75 _ k)) ?_
  exact Go.retI X75 hx hlk hret (D d13_4) (by decide) (by decide) (by rw [e75]; exact ⟨rfl, rfl, by simp⟩)
theorem d14_0 : decode prog_56_method_6_code 0 = .ok (.aload_n 0, 1) := by decide +kernel
theorem d14_1 : decode prog_56_method_6_code 1 = .ok (.getfield 25, 3) := by decide +kernel
theorem d14_4 : decode prog_56_method_6_code 4 = .ok (.dreturn, 1) := by decide +kernel
abbrev own_m16 : MethodName := (⟨"com/example/hernieuw/hernieuw/estimation/FetchHistory", "days", "()D"⟩ : MethodName)
theorem ef_rm_days (m : MethodId) (fh : Addr) : entryFrame m #[(.ref fh)] 1 = mkF m 0 #[rv fh] [] := by first | (simp [entryFrame, mkF, argsToLocals, Value.category]; done) | rfl
theorem pn17 : plainFor (⟨"com/example/hernieuw/hernieuw/estimation/FetchHistory", "days", "()D"⟩ : MethodName) = true := by first | exact plainFor_of_name (by first | (simp [plainName, overriddenIn]; done) | decide +kernel) | decide +kernel
set_option maxRecDepth 65536 in
set_option maxHeartbeats 40000000 in
theorem rm_days {l : Launch} {Z : State} {a0 : Array Value} {A : Nat → Addr} {KC : Nat → Cell} {IC : Nat → Int32} {VC : Nat → Value} (hw : ∀ d ∈ tables_1, d.before a0 Z = true) (G : own_Ctx Z A KC IC VC) (fh : Addr)  (h0 : Heap) (O0 : Ext Z.heap h0) (prem0 : Fld Z h0 fh "com/example/hernieuw/hernieuw/estimation/FetchHistory" "days" "D" (.double (4607182418800017408 : UInt64))) :
    Ok l Z own_m16 prog_56_method_6_code 1 (some .double) ({ frames := 0, cells := 0, slots := 0, locals := 0 } : Room) #[(.ref fh)] h0
      (fun v h L => v = some (.double (4607182418800017408 : UInt64)) ∧ (h = h0) ∧ (L = [])) := by
  refine Ok.mk pn17 ?_
  intro p e s m below meth c T0 hx hby hml hown hnm hret hlk hZ e0 X0
  refine Go.cast (ef_rm_days m fh) ?_
  have D := @hb _ _ hby
  have N0 := Fr.nil Z.heap.size
  have K0 : Keep h0 h0 [] := Keep.refl _ _
  obtain ⟨T76, X76, e76, st76⟩ := getF X0 hx hZ hown (host := "") (Or.inl (own_w hw (i := 41) rfl)) Via.refl e0 prem0 (g := (mkF m 1 #[rv fh] [(.ref fh)])) rfl rfl (D d14_1)
  refine Go.of (T' := T76) (f' := (mkF m 4 #[rv fh] [(.double (4607182418800017408 : UInt64))])) (fun _ k => XS.aloadN X0.here hx rfl (D d14_0) rfl rfl (st76 _ k)) ?_
  exact Go.retD X76 hx hlk hret (D d14_4) (by decide) (by decide) (by rw [e76]; exact ⟨rfl, rfl, by simp⟩)
theorem d12_0 : decode prog_53_method_2_code 0 = .ok (.aload_n 1, 1) := by decide +kernel
theorem d12_1 : decode prog_53_method_2_code 1 = .ok (.invokevirtual 7, 3) := by decide +kernel
theorem pd18 : parseMethodDescriptor "()I" = some ⟨[], some .int⟩ := by decide +kernel
theorem d12_4 : decode prog_53_method_2_code 4 = .ok (.i2d, 1) := by decide +kernel
theorem d12_5 : decode prog_53_method_2_code 5 = .ok (.aload_n 1, 1) := by decide +kernel
theorem d12_6 : decode prog_53_method_2_code 6 = .ok (.invokevirtual 13, 3) := by decide +kernel
theorem pd19 : parseMethodDescriptor "()D" = some ⟨[], some .double⟩ := by decide +kernel
theorem d12_9 : decode prog_53_method_2_code 9 = .ok (.ddiv, 1) := by decide +kernel
theorem own_fp20 : Jvm.Free.Fl.NoNaN64 (FP.ddiv (4607182418800017408 : UInt64) (4607182418800017408 : UInt64)) ∧ FP.ddiv (4607182418800017408 : UInt64) (4607182418800017408 : UInt64) = (4607182418800017408 : UInt64) := ⟨by unfold Jvm.Free.Fl.NoNaN64; decide +kernel, by decide +kernel⟩
theorem d12_10 : decode prog_53_method_2_code 10 = .ok (.dreturn, 1) := by decide +kernel
abbrev own_m21 : MethodName := (⟨"com/example/hernieuw/hernieuw/estimation/Estimator$1", "estimate", "(Lcom/example/hernieuw/hernieuw/estimation/FetchHistory;)D"⟩ : MethodName)
theorem ef_rm_est (m : MethodId) {A : Nat → Addr} (fh : Addr) : entryFrame m #[(.ref (A 0)), (.ref fh)] 2 = mkF m 0 #[rv (A 0), rv fh] [] := by first | (simp [entryFrame, mkF, argsToLocals, Value.category]; done) | rfl
theorem pn22 : plainFor (⟨"com/example/hernieuw/hernieuw/estimation/Estimator$1", "estimate", "(Lcom/example/hernieuw/hernieuw/estimation/FetchHistory;)D"⟩ : MethodName) = true := by first | exact plainFor_of_name (by first | (simp [plainName, overriddenIn]; done) | decide +kernel) | decide +kernel
set_option maxRecDepth 65536 in
set_option maxHeartbeats 40000000 in
theorem rm_est {l : Launch} {Z : State} {a0 : Array Value} {A : Nat → Addr} {KC : Nat → Cell} {IC : Nat → Int32} {VC : Nat → Value} (hw : ∀ d ∈ tables_1, d.before a0 Z = true) (G : own_Ctx Z A KC IC VC) (fh : Addr)  (h0 : Heap) (O0 : Ext Z.heap h0) (prem0 : Exa Z h0 fh "com/example/hernieuw/hernieuw/estimation/FetchHistory") (prem1 : Fld Z h0 fh "com/example/hernieuw/hernieuw/estimation/FetchHistory" "fetches" "I" (.int (1 : Int32))) (prem2 : Fld Z h0 fh "com/example/hernieuw/hernieuw/estimation/FetchHistory" "days" "D" (.double (4607182418800017408 : UInt64))) (prem3 : Fld Z h0 fh "com/example/hernieuw/hernieuw/estimation/FetchHistory" "changes" "I" (.int (1 : Int32))) :
    Ok l Z own_m21 prog_53_method_2_code 2 (some .double) ({ frames := 1, cells := 0, slots := 0, locals := 14 } : Room) #[(.ref (A 0)), (.ref fh)] h0
      (fun v h L => v = some (.double (4607182418800017408 : UInt64)) ∧ (h = h0) ∧ (L = [])) := by
  refine Ok.mk pn22 ?_
  intro p e s m below meth c T0 hx hby hml hown hnm hret hlk hZ e0 X0
  refine Go.cast (ef_rm_est m fh) ?_
  have D := @hb _ _ hby
  have N0 := Fr.nil Z.heap.size
  have K0 : Keep h0 h0 [] := Keep.refl _ _
  obtain ⟨T77, v77, L77, X77, q77, st77⟩ := callVi X0 hx hZ (y := own_m14) (z := own_m14) hown (own_w hw (i := 90) rfl) (own_w hw (i := 91) rfl) (notFace_of_selects (args := #[]) (mvT hZ (own_w hw (i := 93) rfl))) (own_w hw (i := 93) rfl) (own_w hw (i := 92) rfl) (own_w hw (i := 94) rfl) (own_w hw (i := 7) rfl) (by decide) (rm_changes hw G fh  h0 O0 prem3) e0 (W := 0) (by decide) (by decide) (by decide) (by decide) prem0 (g := (mkF m 1 #[rv (A 0), rv fh] [(.ref fh)])) rfl (by rw [hml]; rfl) (argsL := []) (rest := []) (lenOf pd18 rfl) rfl rfl (Nat.le_of_eq rfl) (D d12_1)
  obtain ⟨rfl, e77, rfl⟩ := q77
  have N77 := Fr.app N0 (Fr.nil _)
  obtain ⟨T78, v78, L78, X78, q78, st78⟩ := callVi X77 hx hZ (y := own_m16) (z := own_m16) hown (own_w hw (i := 95) rfl) (own_w hw (i := 96) rfl) (notFace_of_selects (args := #[]) (mvT hZ (own_w hw (i := 98) rfl))) (own_w hw (i := 98) rfl) (own_w hw (i := 97) rfl) (own_w hw (i := 99) rfl) (own_w hw (i := 7) rfl) (by decide) (rm_days hw G fh  h0 O0 prem2) e77 (W := 2) (by decide) (by decide) (by decide) (by decide) prem0 (g := (mkF m 6 #[rv (A 0), rv fh] [(.ref fh), (.double (4607182418800017408 : UInt64))])) rfl (by rw [hml]; rfl) (argsL := []) (rest := [(.double (4607182418800017408 : UInt64))]) (lenOf pd19 rfl) rfl rfl (Nat.le_of_eq rfl) (D d12_6)
  obtain ⟨rfl, e78, rfl⟩ := q78
  have N78 := Fr.app N77 (Fr.nil _)
  refine Go.of (T' := T78) (f' := (mkF m 10 #[rv (A 0), rv fh] [(.double (4607182418800017408 : UInt64))])) (fun _ k => XS.aloadN X0.here hx rfl (D d12_0) rfl rfl (st77 _ (XS.i2dS X77.here hx rfl (D d12_4) rfl (v := (4607182418800017408 : UInt64)) (by decide +kernel) (XS.aloadN X77.here hx rfl (D d12_5) rfl rfl (st78 _ (XS.ddivS X78.here hx rfl (D d12_9) rfl (v := (4607182418800017408 : UInt64)) own_fp20.1 own_fp20.2 k)))))) ?_
  exact Go.retD X78 hx hlk hret (D d12_10) (by decide) (by decide) (by rw [e78]; exact ⟨rfl, rfl, by simp⟩)
theorem d10_0 : decode prog_52_method_4_code 0 = .ok (.aload_n 1, 1) := by decide +kernel
theorem d10_1 : decode prog_52_method_4_code 1 = .ok (.invokevirtual 32, 3) := by decide +kernel
theorem d10_4 : decode prog_52_method_4_code 4 = .ok (.ifCond .ne 13, 3) := by decide +kernel
theorem d10_17 : decode prog_52_method_4_code 17 = .ok (.aload_n 0, 1) := by decide +kernel
theorem d10_18 : decode prog_52_method_4_code 18 = .ok (.aload_n 1, 1) := by decide +kernel
theorem d10_19 : decode prog_52_method_4_code 19 = .ok (.invokevirtual 45, 3) := by decide +kernel
theorem pd23 : parseMethodDescriptor "(Lcom/example/hernieuw/hernieuw/estimation/FetchHistory;)D" = some ⟨[(.object "com/example/hernieuw/hernieuw/estimation/FetchHistory")], some .double⟩ := by decide +kernel
abbrev own_m24 : MethodName := (⟨"com/example/hernieuw/hernieuw/estimation/Estimator", "estimate", "(Lcom/example/hernieuw/hernieuw/estimation/FetchHistory;)D"⟩ : MethodName)
theorem d10_22 : decode prog_52_method_4_code 22 = .ok (.dreturn, 1) := by decide +kernel
abbrev own_m25 : MethodName := (⟨"com/example/hernieuw/hernieuw/estimation/Estimator", "rate", "(Lcom/example/hernieuw/hernieuw/estimation/FetchHistory;)D"⟩ : MethodName)
theorem ef_rm_rate (m : MethodId) {A : Nat → Addr} (fh : Addr) : entryFrame m #[(.ref (A 0)), (.ref fh)] 2 = mkF m 0 #[rv (A 0), rv fh] [] := by first | (simp [entryFrame, mkF, argsToLocals, Value.category]; done) | rfl
theorem pn26 : plainFor (⟨"com/example/hernieuw/hernieuw/estimation/Estimator", "rate", "(Lcom/example/hernieuw/hernieuw/estimation/FetchHistory;)D"⟩ : MethodName) = true := by first | exact plainFor_of_name (by first | (simp [plainName, overriddenIn]; done) | decide +kernel) | decide +kernel
set_option maxRecDepth 65536 in
set_option maxHeartbeats 40000000 in
theorem rm_rate {l : Launch} {Z : State} {a0 : Array Value} {A : Nat → Addr} {KC : Nat → Cell} {IC : Nat → Int32} {VC : Nat → Value} (hw : ∀ d ∈ tables_1, d.before a0 Z = true) (G : own_Ctx Z A KC IC VC) (fh : Addr)  (h0 : Heap) (O0 : Ext Z.heap h0) (prem0 : Exa Z h0 fh "com/example/hernieuw/hernieuw/estimation/FetchHistory") (prem1 : Fld Z h0 fh "com/example/hernieuw/hernieuw/estimation/FetchHistory" "fetches" "I" (.int (1 : Int32))) (prem2 : Fld Z h0 fh "com/example/hernieuw/hernieuw/estimation/FetchHistory" "days" "D" (.double (4607182418800017408 : UInt64))) (prem3 : Fld Z h0 fh "com/example/hernieuw/hernieuw/estimation/FetchHistory" "changes" "I" (.int (1 : Int32))) :
    Ok l Z own_m25 prog_52_method_4_code 2 (some .double) ({ frames := 2, cells := 0, slots := 0, locals := 27 } : Room) #[(.ref (A 0)), (.ref fh)] h0
      (fun v h L => v = some (.double (4607182418800017408 : UInt64)) ∧ (h = h0) ∧ (L = [])) := by
  refine Ok.mk pn26 ?_
  intro p e s m below meth c T0 hx hby hml hown hnm hret hlk hZ e0 X0
  refine Go.cast (ef_rm_rate m fh) ?_
  obtain ⟨-, E_s_NAIVE⟩ := id G
  have D := @hb _ _ hby
  have N0 := Fr.nil Z.heap.size
  have K0 : Keep h0 h0 [] := Keep.refl _ _
  obtain ⟨T79, v79, L79, X79, q79, st79⟩ := callVi X0 hx hZ (y := own_m12) (z := own_m12) hown (own_w hw (i := 79) rfl) (own_w hw (i := 80) rfl) (notFace_of_selects (args := #[]) (mvT hZ (own_w hw (i := 82) rfl))) (own_w hw (i := 82) rfl) (own_w hw (i := 81) rfl) (own_w hw (i := 83) rfl) (own_w hw (i := 7) rfl) (by decide) (rm_fetches hw G fh  h0 O0 prem1) e0 (W := 0) (by decide) (by decide) (by decide) (by decide) prem0 (g := (mkF m 1 #[rv (A 0), rv fh] [(.ref fh)])) rfl (by rw [hml]; rfl) (argsL := []) (rest := []) (lenOf pd18 rfl) rfl rfl (Nat.le_of_eq rfl) (D d10_1)
  obtain ⟨rfl, e79, rfl⟩ := q79
  have N79 := Fr.app N0 (Fr.nil _)
  obtain ⟨T81, v81, L81, X81, q81, st81⟩ := callVi X79 hx hZ (y := own_m24) (z := own_m21) hown (own_w hw (i := 84) rfl) (own_w hw (i := 85) rfl) (nf_mate (args := #[]) (mvT hZ (own_w hw (i := 77) rfl)) rfl) (own_w hw (i := 86) rfl) (own_w hw (i := 87) rfl) (own_w hw (i := 89) rfl) (own_w hw (i := 88) rfl) (by decide) (rm_est hw G fh  h0 O0 prem0 prem1 prem2 prem3) e79 (W := 0) (by decide) (by decide) (by decide) (by decide) (Exa.ext O0 E_s_NAIVE) (g := (mkF m 19 #[rv (A 0), rv fh] [(.ref fh), (.ref (A 0))])) rfl (by rw [hml]; rfl) (argsL := [(.ref fh)]) (rest := []) (lenOf pd23 rfl) rfl rfl (Nat.le_of_eq rfl) (D d10_19)
  obtain ⟨rfl, e81, rfl⟩ := q81
  have N81 := Fr.app N79 (Fr.nil _)
  refine Go.of (T' := T81) (f' := (mkF m 22 #[rv (A 0), rv fh] [(.double (4607182418800017408 : UInt64))])) (fun _ k => XS.aloadN X0.here hx rfl (D d10_0) rfl rfl (st79 _ (XS.ifYes X79.here hx rfl (pc0 := 4) (pc' := 17) rfl (D d10_4) rfl ((if0 _ _).trans (feq (by decide : ¬ ((1 : Int32) = (0 : Int32)))).2) (by decide) (by decide) (XS.aloadN X79.here hx rfl (D d10_17) rfl rfl (XS.aloadN X79.here hx rfl (D d10_18) rfl rfl (st81 _ k)))))) ?_
  exact Go.retD X81 hx hlk hret (D d10_22) (by decide) (by decide) (by rw [e81]; exact ⟨rfl, rfl, by simp⟩)
theorem d15_0 : decode prog_56_method_2_code 0 = .ok (.aload_n 0, 1) := by decide +kernel
theorem d15_1 : decode prog_56_method_2_code 1 = .ok (.invokespecial 1, 3) := by decide +kernel
theorem d15_4 : decode prog_56_method_2_code 4 = .ok (.aload_n 0, 1) := by decide +kernel
theorem d15_5 : decode prog_56_method_2_code 5 = .ok (.ldc2_w 9, 3) := by decide +kernel
theorem d15_8 : decode prog_56_method_2_code 8 = .ok (.putfield 11, 3) := by decide +kernel
theorem d15_11 : decode prog_56_method_2_code 11 = .ok (.aload_n 0, 1) := by decide +kernel
theorem d15_12 : decode prog_56_method_2_code 12 = .ok (.iconst 4, 1) := by decide +kernel
theorem d15_13 : decode prog_56_method_2_code 13 = .ok (.newarray .double, 2) := by decide +kernel
theorem d15_15 : decode prog_56_method_2_code 15 = .ok (.putfield 17, 3) := by decide +kernel
theorem d15_18 : decode prog_56_method_2_code 18 = .ok (.aload_n 0, 1) := by decide +kernel
theorem d15_19 : decode prog_56_method_2_code 19 = .ok (.aload_n 1, 1) := by decide +kernel
theorem d15_20 : decode prog_56_method_2_code 20 = .ok (.getfield 21, 3) := by decide +kernel
theorem d15_23 : decode prog_56_method_2_code 23 = .ok (.putfield 21, 3) := by decide +kernel
theorem d15_26 : decode prog_56_method_2_code 26 = .ok (.aload_n 0, 1) := by decide +kernel
theorem d15_27 : decode prog_56_method_2_code 27 = .ok (.aload_n 1, 1) := by decide +kernel
theorem d15_28 : decode prog_56_method_2_code 28 = .ok (.getfield 25, 3) := by decide +kernel
theorem d15_31 : decode prog_56_method_2_code 31 = .ok (.putfield 25, 3) := by decide +kernel
theorem d15_34 : decode prog_56_method_2_code 34 = .ok (.aload_n 0, 1) := by decide +kernel
theorem d15_35 : decode prog_56_method_2_code 35 = .ok (.aload_n 1, 1) := by decide +kernel
theorem d15_36 : decode prog_56_method_2_code 36 = .ok (.getfield 28, 3) := by decide +kernel
theorem d15_39 : decode prog_56_method_2_code 39 = .ok (.putfield 28, 3) := by decide +kernel
theorem d15_42 : decode prog_56_method_2_code 42 = .ok (.aload_n 0, 1) := by decide +kernel
theorem d15_43 : decode prog_56_method_2_code 43 = .ok (.aload_n 1, 1) := by decide +kernel
theorem d15_44 : decode prog_56_method_2_code 44 = .ok (.getfield 11, 3) := by decide +kernel
theorem d15_47 : decode prog_56_method_2_code 47 = .ok (.putfield 11, 3) := by decide +kernel
theorem d15_50 : decode prog_56_method_2_code 50 = .ok (.aload_n 0, 1) := by decide +kernel
theorem d15_51 : decode prog_56_method_2_code 51 = .ok (.aload_n 1, 1) := by decide +kernel
theorem d15_52 : decode prog_56_method_2_code 52 = .ok (.getfield 17, 3) := by decide +kernel
theorem d15_55 : decode prog_56_method_2_code 55 = .ok (.invokevirtual 31, 3) := by decide +kernel
theorem d15_58 : decode prog_56_method_2_code 58 = .ok (.checkcast 32, 3) := by decide +kernel
theorem d15_61 : decode prog_56_method_2_code 61 = .ok (.putfield 17, 3) := by decide +kernel
theorem d15_64 : decode prog_56_method_2_code 64 = .ok (.aload_n 0, 1) := by decide +kernel
theorem d15_65 : decode prog_56_method_2_code 65 = .ok (.aload_n 1, 1) := by decide +kernel
theorem d15_66 : decode prog_56_method_2_code 66 = .ok (.getfield 36, 3) := by decide +kernel
theorem d15_69 : decode prog_56_method_2_code 69 = .ok (.putfield 36, 3) := by decide +kernel
theorem d15_72 : decode prog_56_method_2_code 72 = .ok (.return_, 1) := by decide +kernel
abbrev own_m27 : MethodName := (⟨"com/example/hernieuw/hernieuw/estimation/FetchHistory", "<init>", "(Lcom/example/hernieuw/hernieuw/estimation/FetchHistory;)V"⟩ : MethodName)
theorem ef_rm_hcopy (m : MethodId) (ob : Addr) (fh : Addr) : entryFrame m #[(.ref ob), (.ref fh)] 2 = mkF m 0 #[rv ob, rv fh] [] := by first | (simp [entryFrame, mkF, argsToLocals, Value.category]; done) | rfl
theorem pn28 : plainFor (⟨"com/example/hernieuw/hernieuw/estimation/FetchHistory", "<init>", "(Lcom/example/hernieuw/hernieuw/estimation/FetchHistory;)V"⟩ : MethodName) = true := by first | exact plainFor_of_name (by first | (simp [plainName, overriddenIn]; done) | decide +kernel) | decide +kernel
set_option maxRecDepth 65536 in
set_option maxHeartbeats 40000000 in
theorem rm_hcopy {l : Launch} {Z : State} {a0 : Array Value} {A : Nat → Addr} {KC : Nat → Cell} {IC : Nat → Int32} {VC : Nat → Value} (hw : ∀ d ∈ tables_1, d.before a0 Z = true) (G : own_Ctx Z A KC IC VC) (ob : Addr) (fh : Addr) (ar : Addr) (ka : ClassId) (h0 : Heap) (O0 : Ext Z.heap h0) (prem0 : Exa Z h0 ob "com/example/hernieuw/hernieuw/estimation/FetchHistory") (prem1 : Fld Z h0 ob "com/example/hernieuw/hernieuw/estimation/FetchHistory" "fetches" "I" (.int (0 : Int32))) (prem2 : Fld Z h0 ob "com/example/hernieuw/hernieuw/estimation/FetchHistory" "days" "D" (.double (0 : UInt64))) (prem3 : Fld Z h0 ob "com/example/hernieuw/hernieuw/estimation/FetchHistory" "unchangedDays" "D" (.double (0 : UInt64))) (prem4 : Fld Z h0 ob "com/example/hernieuw/hernieuw/estimation/FetchHistory" "shortestInterval" "D" (.double (0 : UInt64))) (prem5 : Fld Z h0 ob "com/example/hernieuw/hernieuw/estimation/FetchHistory" "changedIntervals" "[D" .null) (prem6 : Fld Z h0 ob "com/example/hernieuw/hernieuw/estimation/FetchHistory" "changes" "I" (.int (0 : Int32))) (prem7 : Z.heap.size ≤ ob) (prem8 : Exa Z h0 fh "com/example/hernieuw/hernieuw/estimation/FetchHistory") (prem9 : Fld Z h0 fh "com/example/hernieuw/hernieuw/estimation/FetchHistory" "fetches" "I" (.int (1 : Int32))) (prem10 : Fld Z h0 fh "com/example/hernieuw/hernieuw/estimation/FetchHistory" "days" "D" (.double (4607182418800017408 : UInt64))) (prem11 : Fld Z h0 fh "com/example/hernieuw/hernieuw/estimation/FetchHistory" "unchangedDays" "D" (.double (0 : UInt64))) (prem12 : Fld Z h0 fh "com/example/hernieuw/hernieuw/estimation/FetchHistory" "shortestInterval" "D" (.double (4607182418800017408 : UInt64))) (prem13 : Fld Z h0 fh "com/example/hernieuw/hernieuw/estimation/FetchHistory" "changedIntervals" "[D" (.ref ar)) (prem14 : Fld Z h0 fh "com/example/hernieuw/hernieuw/estimation/FetchHistory" "changes" "I" (.int (1 : Int32))) (prem15 : Arv Z h0 ar ka .double (4 : Int32) [(.double (4607182418800017408 : UInt64)), (.double (0 : UInt64)), (.double (0 : UInt64)), (.double (0 : UInt64))] (.double (0 : UInt64))) (prem16 : Exa Z h0 ar "[D") (prem17 : ob ≠ fh) (prem18 : ob ≠ ar) :
    Ok l Z own_m27 prog_56_method_2_code 2 none ({ frames := 1, cells := 2, slots := 8, locals := 15 } : Room) #[(.ref ob), (.ref fh)] h0
      (fun v h L => v = none ∧ (Fr Z.heap.size L) ∧ (Keep h0 h [ob])) := by
  refine Ok.mk pn28 ?_
  intro p e s m below meth c T0 hx hby hml hown hnm hret hlk hZ e0 X0
  refine Go.cast (ef_rm_hcopy m ob fh) ?_
  have D := @hb _ _ hby
  have N0 := Fr.nil Z.heap.size
  have K0 : Keep h0 h0 [ob] := Keep.refl _ _
  obtain ⟨T82, X82, e82, st82⟩ := initO X0 hx hZ hown (own_w hw (i := 11) rfl) (own_w hw (i := 12) rfl) (own_w hw (i := 13) rfl) e0 (g := (mkF m 1 #[rv ob, rv fh] [(.ref ob)])) rfl (by rw [hml]; rfl) rfl (D d15_1) (by decide) (W := 0) (Nat.le_of_eq rfl) (by decide)
  obtain ⟨T83, h83, X83, e83, W83, st83⟩ := putF X82 hx hZ hown (host := "") (Or.inl (own_w hw (i := 15) rfl)) Via.refl e82 prem4 prem0 (Or.inl (own_w hw (i := 16) rfl)) (own_w hw (i := 6) rfl) (ty := .double) (by decide) rfl rfl (g := (mkF m 8 #[rv ob, rv fh] [(.double (9218868437227405312 : UInt64)), (.ref ob)])) rfl rfl (D d15_8)
  have O84 := Old0.wr O0 W83 prem7
  have K84 := Keep.wr K0 W83 (Or.inl (List.mem_of_getElem? (i := 0) rfl))
  have N83 := Fr.snoc X83 N0 prem7
  have f83 : Fld Z h83 ob "com/example/hernieuw/hernieuw/estimation/FetchHistory" "shortestInterval" "D" (.double (9218868437227405312 : UInt64)) := Fld.same W83 prem4
  have f86 : Exa Z h83 ob "com/example/hernieuw/hernieuw/estimation/FetchHistory" := (Exa.wr W83 prem0)
  have f87 : Exa Z h83 fh "com/example/hernieuw/hernieuw/estimation/FetchHistory" := (Exa.wr W83 prem8)
  have f88 : Exa Z h83 ar "[D" := (Exa.wr W83 prem16)
  obtain ⟨T85, h85, k85, b85, q85, X85, e85, E85, V85, A85, st85⟩ := newAr X83 hx hZ (own_w hw (i := 17) rfl) e83 (g := (mkF m 13 #[rv ob, rv fh] [(.int 4), (.ref ob)])) rfl (D d15_13) rfl (by decide) (cap := 4) (by decide) (by decide) (by decide) (by decide) (ad := "[D") (by decide)
  have O89 := Old0.ext O84 E85
  have K89 := Keep.ext K84 E85
  have g_b85 : Z.heap.size ≤ b85 := q85 ▸ O84.1
  have z_b85 : h0.size ≤ b85 := q85 ▸ K84.1
  have ne_ob_b85 : ob ≠ b85 := q85 ▸ Nat.ne_of_lt f86.lt
  have ne_fh_b85 : fh ≠ b85 := q85 ▸ Nat.ne_of_lt f87.lt
  have ne_ar_b85 : ar ≠ b85 := q85 ▸ Nat.ne_of_lt f88.lt
  have f90 : Arv Z h85 b85 k85 .double (4 : Int32) [(.double (0 : UInt64)), (.double (0 : UInt64)), (.double (0 : UInt64)), (.double (0 : UInt64))] (.double (0 : UInt64)) := Arv.pad V85 (pad_rep [] (.double (0 : UInt64)) 4)
  have f92 : Exa Z h85 ob "com/example/hernieuw/hernieuw/estimation/FetchHistory" := (Exa.ext E85 f86)
  have f93 : Fld Z h85 ob "com/example/hernieuw/hernieuw/estimation/FetchHistory" "changedIntervals" "[D" .null := (Fld.ext E85 (Fld.other W83 prem5 (Or.inr (slot_ne (Or.inl (own_w hw (i := 19) rfl)) (Or.inl (own_w hw (i := 16) rfl)) (by decide) (t := (.array .double)) (t' := .double) (by decide) (by decide)))))
  obtain ⟨T91, h91, X91, e91, W91, st91⟩ := putF X85 hx hZ hown (host := "") (Or.inl (own_w hw (i := 18) rfl)) Via.refl e85 f93 f92 (Or.inl (own_w hw (i := 19) rfl)) (own_w hw (i := 6) rfl) (ty := (.array .double)) (by decide) rfl rfl (g := (mkF m 15 #[rv ob, rv fh] [(.ref b85), (.ref ob)])) rfl rfl (D d15_15)
  have O94 := Old0.wr O89 W91 prem7
  have K94 := Keep.wr K89 W91 (Or.inl (List.mem_of_getElem? (i := 0) rfl))
  have N91 := Fr.snoc X91 N83 prem7
  have f91 : Fld Z h91 ob "com/example/hernieuw/hernieuw/estimation/FetchHistory" "changedIntervals" "[D" (.ref b85) := Fld.same W91 f93
  have f96 : Fld Z h91 fh "com/example/hernieuw/hernieuw/estimation/FetchHistory" "fetches" "I" (.int 1) := (Fld.other W91 (Fld.ext E85 (Fld.other W83 prem9 (Or.inl (Ne.symm prem17)))) (Or.inl (Ne.symm prem17)))
  obtain ⟨T95, X95, e95, st95⟩ := getF X91 hx hZ hown (host := "") (Or.inl (own_w hw (i := 43) rfl)) Via.refl e91 f96 (g := (mkF m 20 #[rv ob, rv fh] [(.ref fh), (.ref ob)])) rfl rfl (D d15_20)
  have f98 : Exa Z h91 ob "com/example/hernieuw/hernieuw/estimation/FetchHistory" := (Exa.wr W91 f92)
  have f99 : Fld Z h91 ob "com/example/hernieuw/hernieuw/estimation/FetchHistory" "fetches" "I" (.int 0) := (Fld.other W91 (Fld.ext E85 (Fld.other W83 prem1 (Or.inr (slot_ne (Or.inl (own_w hw (i := 44) rfl)) (Or.inl (own_w hw (i := 16) rfl)) (by decide) (t := .int) (t' := .double) (by decide) (by decide))))) (Or.inr (slot_ne (Or.inl (own_w hw (i := 44) rfl)) (Or.inl (own_w hw (i := 19) rfl)) (by decide) (t := .int) (t' := (.array .double)) (by decide) (by decide))))
  obtain ⟨T97, h97, X97, e97, W97, st97⟩ := putF X95 hx hZ hown (host := "") (Or.inl (own_w hw (i := 43) rfl)) Via.refl e95 f99 f98 (Or.inl (own_w hw (i := 44) rfl)) (own_w hw (i := 6) rfl) (ty := .int) (by decide) rfl rfl (g := (mkF m 23 #[rv ob, rv fh] [(.int 1), (.ref ob)])) rfl rfl (D d15_23)
  have O100 := Old0.wr O94 W97 prem7
  have K100 := Keep.wr K94 W97 (Or.inl (List.mem_of_getElem? (i := 0) rfl))
  have N97 := Fr.snoc X97 N91 prem7
  have f97 : Fld Z h97 ob "com/example/hernieuw/hernieuw/estimation/FetchHistory" "fetches" "I" (.int 1) := Fld.same W97 f99
  have f102 : Fld Z h97 fh "com/example/hernieuw/hernieuw/estimation/FetchHistory" "days" "D" (.double (4607182418800017408 : UInt64)) := (Fld.other W97 (Fld.other W91 (Fld.ext E85 (Fld.other W83 prem10 (Or.inl (Ne.symm prem17)))) (Or.inl (Ne.symm prem17))) (Or.inl (Ne.symm prem17)))
  obtain ⟨T101, X101, e101, st101⟩ := getF X97 hx hZ hown (host := "") (Or.inl (own_w hw (i := 41) rfl)) Via.refl e97 f102 (g := (mkF m 28 #[rv ob, rv fh] [(.ref fh), (.ref ob)])) rfl rfl (D d15_28)
  have f104 : Exa Z h97 ob "com/example/hernieuw/hernieuw/estimation/FetchHistory" := (Exa.wr W97 f98)
  have f105 : Fld Z h97 ob "com/example/hernieuw/hernieuw/estimation/FetchHistory" "days" "D" (.double (0 : UInt64)) := (Fld.other W97 (Fld.other W91 (Fld.ext E85 (Fld.other W83 prem2 (Or.inr (slot_ne (Or.inl (own_w hw (i := 42) rfl)) (Or.inl (own_w hw (i := 16) rfl)) (by decide) (t := .double) (t' := .double) (by decide) (by decide))))) (Or.inr (slot_ne (Or.inl (own_w hw (i := 42) rfl)) (Or.inl (own_w hw (i := 19) rfl)) (by decide) (t := .double) (t' := (.array .double)) (by decide) (by decide)))) (Or.inr (slot_ne (Or.inl (own_w hw (i := 42) rfl)) (Or.inl (own_w hw (i := 44) rfl)) (by decide) (t := .double) (t' := .int) (by decide) (by decide))))
  obtain ⟨T103, h103, X103, e103, W103, st103⟩ := putF X101 hx hZ hown (host := "") (Or.inl (own_w hw (i := 41) rfl)) Via.refl e101 f105 f104 (Or.inl (own_w hw (i := 42) rfl)) (own_w hw (i := 6) rfl) (ty := .double) (by decide) rfl rfl (g := (mkF m 31 #[rv ob, rv fh] [(.double (4607182418800017408 : UInt64)), (.ref ob)])) rfl rfl (D d15_31)
  have O106 := Old0.wr O100 W103 prem7
  have K106 := Keep.wr K100 W103 (Or.inl (List.mem_of_getElem? (i := 0) rfl))
  have N103 := Fr.snoc X103 N97 prem7
  have f103 : Fld Z h103 ob "com/example/hernieuw/hernieuw/estimation/FetchHistory" "days" "D" (.double (4607182418800017408 : UInt64)) := Fld.same W103 f105
  have f108 : Fld Z h103 fh "com/example/hernieuw/hernieuw/estimation/FetchHistory" "unchangedDays" "D" (.double (0 : UInt64)) := (Fld.other W103 (Fld.other W97 (Fld.other W91 (Fld.ext E85 (Fld.other W83 prem11 (Or.inl (Ne.symm prem17)))) (Or.inl (Ne.symm prem17))) (Or.inl (Ne.symm prem17))) (Or.inl (Ne.symm prem17)))
  obtain ⟨T107, X107, e107, st107⟩ := getF X103 hx hZ hown (host := "") (Or.inl (own_w hw (i := 107) rfl)) Via.refl e103 f108 (g := (mkF m 36 #[rv ob, rv fh] [(.ref fh), (.ref ob)])) rfl rfl (D d15_36)
  have f110 : Exa Z h103 ob "com/example/hernieuw/hernieuw/estimation/FetchHistory" := (Exa.wr W103 f104)
  have f111 : Fld Z h103 ob "com/example/hernieuw/hernieuw/estimation/FetchHistory" "unchangedDays" "D" (.double (0 : UInt64)) := (Fld.other W103 (Fld.other W97 (Fld.other W91 (Fld.ext E85 (Fld.other W83 prem3 (Or.inr (slot_ne (Or.inl (own_w hw (i := 108) rfl)) (Or.inl (own_w hw (i := 16) rfl)) (by decide) (t := .double) (t' := .double) (by decide) (by decide))))) (Or.inr (slot_ne (Or.inl (own_w hw (i := 108) rfl)) (Or.inl (own_w hw (i := 19) rfl)) (by decide) (t := .double) (t' := (.array .double)) (by decide) (by decide)))) (Or.inr (slot_ne (Or.inl (own_w hw (i := 108) rfl)) (Or.inl (own_w hw (i := 44) rfl)) (by decide) (t := .double) (t' := .int) (by decide) (by decide)))) (Or.inr (slot_ne (Or.inl (own_w hw (i := 108) rfl)) (Or.inl (own_w hw (i := 42) rfl)) (by decide) (t := .double) (t' := .double) (by decide) (by decide))))
  obtain ⟨T109, h109, X109, e109, W109, st109⟩ := putF X107 hx hZ hown (host := "") (Or.inl (own_w hw (i := 107) rfl)) Via.refl e107 f111 f110 (Or.inl (own_w hw (i := 108) rfl)) (own_w hw (i := 6) rfl) (ty := .double) (by decide) rfl rfl (g := (mkF m 39 #[rv ob, rv fh] [(.double (0 : UInt64)), (.ref ob)])) rfl rfl (D d15_39)
  have O112 := Old0.wr O106 W109 prem7
  have K112 := Keep.wr K106 W109 (Or.inl (List.mem_of_getElem? (i := 0) rfl))
  have N109 := Fr.snoc X109 N103 prem7
  have f109 : Fld Z h109 ob "com/example/hernieuw/hernieuw/estimation/FetchHistory" "unchangedDays" "D" (.double (0 : UInt64)) := Fld.same W109 f111
  have f114 : Fld Z h109 fh "com/example/hernieuw/hernieuw/estimation/FetchHistory" "shortestInterval" "D" (.double (4607182418800017408 : UInt64)) := (Fld.other W109 (Fld.other W103 (Fld.other W97 (Fld.other W91 (Fld.ext E85 (Fld.other W83 prem12 (Or.inl (Ne.symm prem17)))) (Or.inl (Ne.symm prem17))) (Or.inl (Ne.symm prem17))) (Or.inl (Ne.symm prem17))) (Or.inl (Ne.symm prem17)))
  obtain ⟨T113, X113, e113, st113⟩ := getF X109 hx hZ hown (host := "") (Or.inl (own_w hw (i := 15) rfl)) Via.refl e109 f114 (g := (mkF m 44 #[rv ob, rv fh] [(.ref fh), (.ref ob)])) rfl rfl (D d15_44)
  refine Go.of (T' := T113) (f' := (mkF m 47 #[rv ob, rv fh] [(.double (4607182418800017408 : UInt64)), (.ref ob)])) (fun _ k => XS.aloadN X0.here hx rfl (D d15_0) rfl rfl (st82 _ (XS.aloadN X82.here hx rfl (D d15_4) rfl rfl (X82.ldc2DoubleC hx hown (mvT hZ (own_w hw (i := 14) rfl)) (g := (mkF m 5 #[rv ob, rv fh] [(.ref ob)])) rfl (D d15_5) _ (st83 _ (XS.aloadN X83.here hx rfl (D d15_11) rfl rfl (XS.iconst X83.here hx rfl (D d15_12) (st85 _ (st91 _ (XS.aloadN X91.here hx rfl (D d15_18) rfl rfl (XS.aloadN X91.here hx rfl (D d15_19) rfl rfl (st95 _ (st97 _ (XS.aloadN X97.here hx rfl (D d15_26) rfl rfl (XS.aloadN X97.here hx rfl (D d15_27) rfl rfl (st101 _ (st103 _ (XS.aloadN X103.here hx rfl (D d15_34) rfl rfl (XS.aloadN X103.here hx rfl (D d15_35) rfl rfl (st107 _ (st109 _ (XS.aloadN X109.here hx rfl (D d15_42) rfl rfl (XS.aloadN X109.here hx rfl (D d15_43) rfl rfl (st113 _ k)))))))))))))))))))))))) ?_
  have f116 : Exa Z h109 ob "com/example/hernieuw/hernieuw/estimation/FetchHistory" := (Exa.wr W109 f110)
  have f117 : Fld Z h109 ob "com/example/hernieuw/hernieuw/estimation/FetchHistory" "shortestInterval" "D" (.double (9218868437227405312 : UInt64)) := (Fld.other W109 (Fld.other W103 (Fld.other W97 (Fld.other W91 (Fld.ext E85 f83) (Or.inr (slot_ne (Or.inl (own_w hw (i := 16) rfl)) (Or.inl (own_w hw (i := 19) rfl)) (by decide) (t := .double) (t' := (.array .double)) (by decide) (by decide)))) (Or.inr (slot_ne (Or.inl (own_w hw (i := 16) rfl)) (Or.inl (own_w hw (i := 44) rfl)) (by decide) (t := .double) (t' := .int) (by decide) (by decide)))) (Or.inr (slot_ne (Or.inl (own_w hw (i := 16) rfl)) (Or.inl (own_w hw (i := 42) rfl)) (by decide) (t := .double) (t' := .double) (by decide) (by decide)))) (Or.inr (slot_ne (Or.inl (own_w hw (i := 16) rfl)) (Or.inl (own_w hw (i := 108) rfl)) (by decide) (t := .double) (t' := .double) (by decide) (by decide))))
  obtain ⟨T115, h115, X115, e115, W115, st115⟩ := putF X113 hx hZ hown (host := "") (Or.inl (own_w hw (i := 15) rfl)) Via.refl e113 f117 f116 (Or.inl (own_w hw (i := 16) rfl)) (own_w hw (i := 6) rfl) (ty := .double) (by decide) rfl rfl (g := (mkF m 47 #[rv ob, rv fh] [(.double (4607182418800017408 : UInt64)), (.ref ob)])) rfl rfl (D d15_47)
  have O118 := Old0.wr O112 W115 prem7
  have K118 := Keep.wr K112 W115 (Or.inl (List.mem_of_getElem? (i := 0) rfl))
  have N115 := Fr.snoc X115 N109 prem7
  have f115 : Fld Z h115 ob "com/example/hernieuw/hernieuw/estimation/FetchHistory" "shortestInterval" "D" (.double (4607182418800017408 : UInt64)) := Fld.same W115 f117
  have f120 : Fld Z h115 fh "com/example/hernieuw/hernieuw/estimation/FetchHistory" "changedIntervals" "[D" (.ref ar) := (Fld.other W115 (Fld.other W109 (Fld.other W103 (Fld.other W97 (Fld.other W91 (Fld.ext E85 (Fld.other W83 prem13 (Or.inl (Ne.symm prem17)))) (Or.inl (Ne.symm prem17))) (Or.inl (Ne.symm prem17))) (Or.inl (Ne.symm prem17))) (Or.inl (Ne.symm prem17))) (Or.inl (Ne.symm prem17)))
  obtain ⟨T119, X119, e119, st119⟩ := getF X115 hx hZ hown (host := "") (Or.inl (own_w hw (i := 18) rfl)) Via.refl e115 f120 (g := (mkF m 52 #[rv ob, rv fh] [(.ref fh), (.ref ob)])) rfl rfl (D d15_52)
  have f122 : Arv Z h115 ar ka .double (4 : Int32) [(.double (4607182418800017408 : UInt64)), (.double (0 : UInt64)), (.double (0 : UInt64)), (.double (0 : UInt64))] (.double (0 : UInt64)) := (Arv.other (Arv.other (Arv.other (Arv.other (Arv.other (Arv.ext (Arv.other prem15 W83 (Ne.symm prem18)) E85) W91 (Ne.symm prem18)) W97 (Ne.symm prem18)) W103 (Ne.symm prem18)) W109 (Ne.symm prem18)) W115 (Ne.symm prem18))
  have f123 : Exa Z h115 ar "[D" := (Exa.wr W115 (Exa.wr W109 (Exa.wr W103 (Exa.wr W97 (Exa.wr W91 (Exa.ext E85 f88))))))
  have f124 : Exa Z h115 ob "com/example/hernieuw/hernieuw/estimation/FetchHistory" := (Exa.wr W115 f116)
  have f125 : Exa Z h115 fh "com/example/hernieuw/hernieuw/estimation/FetchHistory" := (Exa.wr W115 (Exa.wr W109 (Exa.wr W103 (Exa.wr W97 (Exa.wr W91 (Exa.ext E85 f87))))))
  have f126 : Exa Z h115 b85 "[D" := (Exa.wr W115 (Exa.wr W109 (Exa.wr W103 (Exa.wr W97 (Exa.wr W91 A85)))))
  obtain ⟨T121, h121, b121, q121, X121, e121, E121, V121, A121, st121⟩ := cloneV X119 hx hZ hown (own_w hw (i := 109) rfl) (own_w hw (i := 110) rfl) (own_w hw (i := 114) rfl) (own_w hw (i := 112) rfl) (own_w hw (i := 113) rfl) (own_w hw (i := 115) rfl) e119 f122 f123 (g := (mkF m 55 #[rv ob, rv fh] [(.ref ar), (.ref ob)])) rfl (by rw [hml]; rfl) rfl (D d15_55) (by decide) (W := 1) (cap := 4) (Nat.le_of_eq rfl) (by decide) (by decide) (by decide) (by decide)
  have O127 := Old0.ext O118 E121
  have K127 := Keep.ext K118 E121
  have g_b121 : Z.heap.size ≤ b121 := q121 ▸ O118.1
  have z_b121 : h0.size ≤ b121 := q121 ▸ K118.1
  have ne_ob_b121 : ob ≠ b121 := q121 ▸ Nat.ne_of_lt f124.lt
  have ne_fh_b121 : fh ≠ b121 := q121 ▸ Nat.ne_of_lt f125.lt
  have ne_ar_b121 : ar ≠ b121 := q121 ▸ Nat.ne_of_lt f123.lt
  have ne_b85_b121 : b85 ≠ b121 := q121 ▸ Nat.ne_of_lt f126.lt
  obtain ⟨T128, X128, e128, st128⟩ := castY X121 hx hZ hown (own_w hw (i := 116) rfl) e121 (Ins.self A121) (g := (mkF m 58 #[rv ob, rv fh] [(.ref b121), (.ref ob)])) rfl rfl (D d15_58)
  have f130 : Exa Z h121 ob "com/example/hernieuw/hernieuw/estimation/FetchHistory" := (Exa.ext E121 f124)
  have f131 : Fld Z h121 ob "com/example/hernieuw/hernieuw/estimation/FetchHistory" "changedIntervals" "[D" (.ref b85) := (Fld.ext E121 (Fld.other W115 (Fld.other W109 (Fld.other W103 (Fld.other W97 f91 (Or.inr (slot_ne (Or.inl (own_w hw (i := 19) rfl)) (Or.inl (own_w hw (i := 44) rfl)) (by decide) (t := (.array .double)) (t' := .int) (by decide) (by decide)))) (Or.inr (slot_ne (Or.inl (own_w hw (i := 19) rfl)) (Or.inl (own_w hw (i := 42) rfl)) (by decide) (t := (.array .double)) (t' := .double) (by decide) (by decide)))) (Or.inr (slot_ne (Or.inl (own_w hw (i := 19) rfl)) (Or.inl (own_w hw (i := 108) rfl)) (by decide) (t := (.array .double)) (t' := .double) (by decide) (by decide)))) (Or.inr (slot_ne (Or.inl (own_w hw (i := 19) rfl)) (Or.inl (own_w hw (i := 16) rfl)) (by decide) (t := (.array .double)) (t' := .double) (by decide) (by decide)))))
  obtain ⟨T129, h129, X129, e129, W129, st129⟩ := putF X128 hx hZ hown (host := "") (Or.inl (own_w hw (i := 18) rfl)) Via.refl e128 f131 f130 (Or.inl (own_w hw (i := 19) rfl)) (own_w hw (i := 6) rfl) (ty := (.array .double)) (by decide) rfl rfl (g := (mkF m 61 #[rv ob, rv fh] [(.ref b121), (.ref ob)])) rfl rfl (D d15_61)
  have O132 := Old0.wr O127 W129 prem7
  have K132 := Keep.wr K127 W129 (Or.inl (List.mem_of_getElem? (i := 0) rfl))
  have N129 := Fr.snoc X129 N115 prem7
  have f129 : Fld Z h129 ob "com/example/hernieuw/hernieuw/estimation/FetchHistory" "changedIntervals" "[D" (.ref b121) := Fld.same W129 f131
  have f134 : Fld Z h129 fh "com/example/hernieuw/hernieuw/estimation/FetchHistory" "changes" "I" (.int 1) := (Fld.other W129 (Fld.ext E121 (Fld.other W115 (Fld.other W109 (Fld.other W103 (Fld.other W97 (Fld.other W91 (Fld.ext E85 (Fld.other W83 prem14 (Or.inl (Ne.symm prem17)))) (Or.inl (Ne.symm prem17))) (Or.inl (Ne.symm prem17))) (Or.inl (Ne.symm prem17))) (Or.inl (Ne.symm prem17))) (Or.inl (Ne.symm prem17)))) (Or.inl (Ne.symm prem17)))
  obtain ⟨T133, X133, e133, st133⟩ := getF X129 hx hZ hown (host := "") (Or.inl (own_w hw (i := 48) rfl)) Via.refl e129 f134 (g := (mkF m 66 #[rv ob, rv fh] [(.ref fh), (.ref ob)])) rfl rfl (D d15_66)
  have f136 : Exa Z h129 ob "com/example/hernieuw/hernieuw/estimation/FetchHistory" := (Exa.wr W129 f130)
  have f137 : Fld Z h129 ob "com/example/hernieuw/hernieuw/estimation/FetchHistory" "changes" "I" (.int 0) := (Fld.other W129 (Fld.ext E121 (Fld.other W115 (Fld.other W109 (Fld.other W103 (Fld.other W97 (Fld.other W91 (Fld.ext E85 (Fld.other W83 prem6 (Or.inr (slot_ne (Or.inl (own_w hw (i := 49) rfl)) (Or.inl (own_w hw (i := 16) rfl)) (by decide) (t := .int) (t' := .double) (by decide) (by decide))))) (Or.inr (slot_ne (Or.inl (own_w hw (i := 49) rfl)) (Or.inl (own_w hw (i := 19) rfl)) (by decide) (t := .int) (t' := (.array .double)) (by decide) (by decide)))) (Or.inr (slot_ne (Or.inl (own_w hw (i := 49) rfl)) (Or.inl (own_w hw (i := 44) rfl)) (by decide) (t := .int) (t' := .int) (by decide) (by decide)))) (Or.inr (slot_ne (Or.inl (own_w hw (i := 49) rfl)) (Or.inl (own_w hw (i := 42) rfl)) (by decide) (t := .int) (t' := .double) (by decide) (by decide)))) (Or.inr (slot_ne (Or.inl (own_w hw (i := 49) rfl)) (Or.inl (own_w hw (i := 108) rfl)) (by decide) (t := .int) (t' := .double) (by decide) (by decide)))) (Or.inr (slot_ne (Or.inl (own_w hw (i := 49) rfl)) (Or.inl (own_w hw (i := 16) rfl)) (by decide) (t := .int) (t' := .double) (by decide) (by decide))))) (Or.inr (slot_ne (Or.inl (own_w hw (i := 49) rfl)) (Or.inl (own_w hw (i := 19) rfl)) (by decide) (t := .int) (t' := (.array .double)) (by decide) (by decide))))
  obtain ⟨T135, h135, X135, e135, W135, st135⟩ := putF X133 hx hZ hown (host := "") (Or.inl (own_w hw (i := 48) rfl)) Via.refl e133 f137 f136 (Or.inl (own_w hw (i := 49) rfl)) (own_w hw (i := 6) rfl) (ty := .int) (by decide) rfl rfl (g := (mkF m 69 #[rv ob, rv fh] [(.int 1), (.ref ob)])) rfl rfl (D d15_69)
  have O138 := Old0.wr O132 W135 prem7
  have K138 := Keep.wr K132 W135 (Or.inl (List.mem_of_getElem? (i := 0) rfl))
  have N135 := Fr.snoc X135 N129 prem7
  have f135 : Fld Z h135 ob "com/example/hernieuw/hernieuw/estimation/FetchHistory" "changes" "I" (.int 1) := Fld.same W135 f137
  refine Go.of (T' := T135) (f' := (mkF m 72 #[rv ob, rv fh] [])) (fun _ k => st115 _ (XS.aloadN X115.here hx rfl (D d15_50) rfl rfl (XS.aloadN X115.here hx rfl (D d15_51) rfl rfl (st119 _ (st121 _ (st128 _ (st129 _ (XS.aloadN X129.here hx rfl (D d15_64) rfl rfl (XS.aloadN X129.here hx rfl (D d15_65) rfl rfl (st133 _ (st135 _ k))))))))))) ?_
  exact Go.retV X135 hx hlk hret (D d15_72) (by decide) (by decide) (by rw [e135]; exact ⟨rfl, N135, K138⟩)
theorem d9_0 : decode prog_59_method_2_code 0 = .ok (.iload_n 0, 1) := by decide +kernel
theorem d9_1 : decode prog_59_method_2_code 1 = .ok (.iconst 1, 1) := by decide +kernel
theorem d9_2 : decode prog_59_method_2_code 2 = .ok (.if_icmp .ge 17, 3) := by decide +kernel
theorem d9_19 : decode prog_59_method_2_code 19 = .ok (.return_, 1) := by decide +kernel
abbrev own_m29 : MethodName := (⟨"com/example/hernieuw/hernieuw/estimation/RecentFetches", "requireMemory", "(I)V"⟩ : MethodName)
theorem ef_rm_reqm (m : MethodId) (mm : Int32) : entryFrame m #[(.int mm)] 1 = mkF m 0 #[iv mm] [] := by first | (simp [entryFrame, mkF, argsToLocals, Value.category]; done) | rfl
theorem pn30 : plainFor (⟨"com/example/hernieuw/hernieuw/estimation/RecentFetches", "requireMemory", "(I)V"⟩ : MethodName) = true := by first | exact plainFor_of_name (by first | (simp [plainName, overriddenIn]; done) | decide +kernel) | decide +kernel
set_option maxRecDepth 65536 in
set_option maxHeartbeats 40000000 in
theorem rm_reqm {l : Launch} {Z : State} {a0 : Array Value} {A : Nat → Addr} {KC : Nat → Cell} {IC : Nat → Int32} {VC : Nat → Value} (hw : ∀ d ∈ tables_1, d.before a0 Z = true) (G : own_Ctx Z A KC IC VC) (mm : Int32)  (h0 : Heap) (O0 : Ext Z.heap h0) (prem0 : ¬ (mm < (1 : Int32))) :
    Ok l Z own_m29 prog_59_method_2_code 1 none ({ frames := 0, cells := 0, slots := 0, locals := 0 } : Room) #[(.int mm)] h0
      (fun v h L => v = none ∧ (h = h0) ∧ (L = [])) := by
  refine Ok.mk pn30 ?_
  intro p e s m below meth c T0 hx hby hml hown hnm hret hlk hZ e0 X0
  refine Go.cast (ef_rm_reqm m mm) ?_
  have D := @hb _ _ hby
  have N0 := Fr.nil Z.heap.size
  have K0 : Keep h0 h0 [] := Keep.refl _ _
  have hc139 : ¬ (mm < (1 : Int32)) := prem0
  refine Go.of (T' := T0) (f' := (mkF m 19 #[iv mm] [])) (fun _ k => XS.iloadN X0.here hx rfl (D d9_0) rfl (XS.iconst X0.here hx rfl (D d9_1) (XS.icmpYes X0.here hx rfl (pc0 := 2) (pc' := 19) rfl (D d9_2) rfl (flt hc139).2.1 (by decide) (by decide) k))) ?_
  exact Go.retV X0 hx hlk hret (D d9_19) (by decide) (by decide) (by rw [e0]; exact ⟨rfl, rfl, by simp⟩)
theorem d8_0 : decode prog_58_method_1_code 0 = .ok (.aload_n 0, 1) := by decide +kernel
theorem d8_1 : decode prog_58_method_1_code 1 = .ok (.invokespecial 1, 3) := by decide +kernel
theorem d8_4 : decode prog_58_method_1_code 4 = .ok (.iload_n 1, 1) := by decide +kernel
theorem d8_5 : decode prog_58_method_1_code 5 = .ok (.ifCond .ge 17, 3) := by decide +kernel
theorem d8_22 : decode prog_58_method_1_code 22 = .ok (.iload 4, 2) := by decide +kernel
theorem d8_24 : decode prog_58_method_1_code 24 = .ok (.invokestatic 16, 3) := by decide +kernel
theorem pd31 : parseMethodDescriptor "(I)V" = some ⟨[.int], none⟩ := by decide +kernel
theorem d8_27 : decode prog_58_method_1_code 27 = .ok (.aload_n 2, 1) := by decide +kernel
theorem d8_28 : decode prog_58_method_1_code 28 = .ok (.aload_n 3, 1) := by decide +kernel
theorem d8_29 : decode prog_58_method_1_code 29 = .ok (.invokevirtual 22, 3) := by decide +kernel
theorem d8_32 : decode prog_58_method_1_code 32 = .ok (.dstore 5, 2) := by decide +kernel
theorem d8_34 : decode prog_58_method_1_code 34 = .ok (.dload 5, 2) := by decide +kernel
theorem d8_36 : decode prog_58_method_1_code 36 = .ok (.ldc2_w 30, 3) := by decide +kernel
theorem d8_39 : decode prog_58_method_1_code 39 = .ok (.dcmp .l, 1) := by decide +kernel
theorem d8_40 : decode prog_58_method_1_code 40 = .ok (.ifCond .ne 22, 3) := by decide +kernel
theorem d8_62 : decode prog_58_method_1_code 62 = .ok (.aload_n 0, 1) := by decide +kernel
theorem d8_63 : decode prog_58_method_1_code 63 = .ok (.aload_n 2, 1) := by decide +kernel
theorem d8_64 : decode prog_58_method_1_code 64 = .ok (.putfield 41, 3) := by decide +kernel
theorem d8_67 : decode prog_58_method_1_code 67 = .ok (.aload_n 0, 1) := by decide +kernel
theorem d8_68 : decode prog_58_method_1_code 68 = .ok (.new 47, 3) := by decide +kernel
theorem d8_71 : decode prog_58_method_1_code 71 = .ok (.dup, 1) := by decide +kernel
theorem d8_72 : decode prog_58_method_1_code 72 = .ok (.aload_n 3, 1) := by decide +kernel
theorem d8_73 : decode prog_58_method_1_code 73 = .ok (.invokespecial 49, 3) := by decide +kernel
theorem pd32 : parseMethodDescriptor "(Lcom/example/hernieuw/hernieuw/estimation/FetchHistory;)V" = some ⟨[(.object "com/example/hernieuw/hernieuw/estimation/FetchHistory")], none⟩ := by decide +kernel
theorem d8_76 : decode prog_58_method_1_code 76 = .ok (.putfield 52, 3) := by decide +kernel
theorem d8_79 : decode prog_58_method_1_code 79 = .ok (.aload_n 0, 1) := by decide +kernel
theorem d8_80 : decode prog_58_method_1_code 80 = .ok (.dload 5, 2) := by decide +kernel
theorem d8_82 : decode prog_58_method_1_code 82 = .ok (.putfield 56, 3) := by decide +kernel
theorem d8_85 : decode prog_58_method_1_code 85 = .ok (.aload_n 0, 1) := by decide +kernel
theorem d8_86 : decode prog_58_method_1_code 86 = .ok (.iload 4, 2) := by decide +kernel
theorem d8_88 : decode prog_58_method_1_code 88 = .ok (.putfield 60, 3) := by decide +kernel
theorem d8_91 : decode prog_58_method_1_code 91 = .ok (.aload_n 0, 1) := by decide +kernel
theorem d8_92 : decode prog_58_method_1_code 92 = .ok (.iload_n 1, 1) := by decide +kernel
theorem d8_93 : decode prog_58_method_1_code 93 = .ok (.anewarray 17, 3) := by decide +kernel
theorem d8_96 : decode prog_58_method_1_code 96 = .ok (.putfield 64, 3) := by decide +kernel
theorem d8_99 : decode prog_58_method_1_code 99 = .ok (.aload_n 0, 1) := by decide +kernel
theorem d8_100 : decode prog_58_method_1_code 100 = .ok (.iload_n 1, 1) := by decide +kernel
theorem d8_101 : decode prog_58_method_1_code 101 = .ok (.newarray .double, 2) := by decide +kernel
theorem d8_103 : decode prog_58_method_1_code 103 = .ok (.putfield 68, 3) := by decide +kernel
theorem d8_106 : decode prog_58_method_1_code 106 = .ok (.aload_n 0, 1) := by decide +kernel
theorem d8_107 : decode prog_58_method_1_code 107 = .ok (.iload_n 1, 1) := by decide +kernel
theorem d8_108 : decode prog_58_method_1_code 108 = .ok (.newarray .boolean, 2) := by decide +kernel
theorem d8_110 : decode prog_58_method_1_code 110 = .ok (.putfield 72, 3) := by decide +kernel
theorem d8_113 : decode prog_58_method_1_code 113 = .ok (.iconst 0, 1) := by decide +kernel
theorem d8_114 : decode prog_58_method_1_code 114 = .ok (.istore 7, 2) := by decide +kernel
theorem d8_116 : decode prog_58_method_1_code 116 = .ok (.iload 7, 2) := by decide +kernel
theorem d8_118 : decode prog_58_method_1_code 118 = .ok (.iload_n 1, 1) := by decide +kernel
theorem d8_119 : decode prog_58_method_1_code 119 = .ok (.if_icmp .ge 14, 3) := by decide +kernel
theorem d8_133 : decode prog_58_method_1_code 133 = .ok (.return_, 1) := by decide +kernel
abbrev own_m33 : MethodName := (⟨"com/example/hernieuw/hernieuw/estimation/RateEstimates", "<init>", "(ILcom/example/hernieuw/hernieuw/estimation/Estimator;Lcom/example/hernieuw/hernieuw/estimation/FetchHistory;I)V"⟩ : MethodName)
theorem ef_rm_reinit (m : MethodId) {A : Nat → Addr} (rb : Addr) (fh : Addr) (mm : Int32) : entryFrame m #[(.ref rb), (.int (0 : Int32)), (.ref (A 0)), (.ref fh), (.int mm)] 8 = mkF m 0 #[rv rb, iv (0 : Int32), rv (A 0), rv fh, iv mm, .unset, .unset, .unset] [] := by first | (simp [entryFrame, mkF, argsToLocals, Value.category]; done) | rfl
theorem pn34 : plainFor (⟨"com/example/hernieuw/hernieuw/estimation/RateEstimates", "<init>", "(ILcom/example/hernieuw/hernieuw/estimation/Estimator;Lcom/example/hernieuw/hernieuw/estimation/FetchHistory;I)V"⟩ : MethodName) = true := by first | exact plainFor_of_name (by first | (simp [plainName, overriddenIn]; done) | decide +kernel) | decide +kernel
set_option maxRecDepth 65536 in
set_option maxHeartbeats 40000000 in
theorem rm_reinit {l : Launch} {Z : State} {a0 : Array Value} {A : Nat → Addr} {KC : Nat → Cell} {IC : Nat → Int32} {VC : Nat → Value} (hw : ∀ d ∈ tables_1, d.before a0 Z = true) (G : own_Ctx Z A KC IC VC) (rb : Addr) (fh : Addr) (mm : Int32) (ar : Addr) (ka : ClassId) (h0 : Heap) (O0 : Ext Z.heap h0) (prem0 : ¬ (mm < (1 : Int32))) (prem1 : Exa Z h0 rb "com/example/hernieuw/hernieuw/estimation/RateEstimates") (prem2 : Fld Z h0 rb "com/example/hernieuw/hernieuw/estimation/RateEstimates" "estimator" "Lcom/example/hernieuw/hernieuw/estimation/Estimator;" .null) (prem3 : Fld Z h0 rb "com/example/hernieuw/hernieuw/estimation/RateEstimates" "prior" "Lcom/example/hernieuw/hernieuw/estimation/FetchHistory;" .null) (prem4 : Fld Z h0 rb "com/example/hernieuw/hernieuw/estimation/RateEstimates" "priorRate" "D" (.double (0 : UInt64))) (prem5 : Fld Z h0 rb "com/example/hernieuw/hernieuw/estimation/RateEstimates" "memory" "I" (.int (0 : Int32))) (prem6 : Fld Z h0 rb "com/example/hernieuw/hernieuw/estimation/RateEstimates" "recent" "[Lcom/example/hernieuw/hernieuw/estimation/RecentFetches;" .null) (prem7 : Fld Z h0 rb "com/example/hernieuw/hernieuw/estimation/RateEstimates" "rates" "[D" .null) (prem8 : Fld Z h0 rb "com/example/hernieuw/hernieuw/estimation/RateEstimates" "estimated" "[Z" .null) (prem9 : Z.heap.size ≤ rb) (prem10 : Exa Z h0 fh "com/example/hernieuw/hernieuw/estimation/FetchHistory") (prem11 : Fld Z h0 fh "com/example/hernieuw/hernieuw/estimation/FetchHistory" "fetches" "I" (.int (1 : Int32))) (prem12 : Fld Z h0 fh "com/example/hernieuw/hernieuw/estimation/FetchHistory" "days" "D" (.double (4607182418800017408 : UInt64))) (prem13 : Fld Z h0 fh "com/example/hernieuw/hernieuw/estimation/FetchHistory" "unchangedDays" "D" (.double (0 : UInt64))) (prem14 : Fld Z h0 fh "com/example/hernieuw/hernieuw/estimation/FetchHistory" "shortestInterval" "D" (.double (4607182418800017408 : UInt64))) (prem15 : Fld Z h0 fh "com/example/hernieuw/hernieuw/estimation/FetchHistory" "changedIntervals" "[D" (.ref ar)) (prem16 : Fld Z h0 fh "com/example/hernieuw/hernieuw/estimation/FetchHistory" "changes" "I" (.int (1 : Int32))) (prem17 : Arv Z h0 ar ka .double (4 : Int32) [(.double (4607182418800017408 : UInt64)), (.double (0 : UInt64)), (.double (0 : UInt64)), (.double (0 : UInt64))] (.double (0 : UInt64))) (prem18 : Exa Z h0 ar "[D") (prem19 : rb ≠ fh) (prem20 : rb ≠ ar) :
    Ok l Z own_m33 prog_58_method_1_code 8 none ({ frames := 3, cells := 6, slots := 14, locals := 40 } : Room) #[(.ref rb), (.int (0 : Int32)), (.ref (A 0)), (.ref fh), (.int mm)] h0
      (fun v h L => v = none ∧ (Fr Z.heap.size L) ∧ (Keep h0 h [rb])) := by
  refine Ok.mk pn34 ?_
  intro p e s m below meth c T0 hx hby hml hown hnm hret hlk hZ e0 X0
  refine Go.cast (ef_rm_reinit m rb fh mm) ?_
  obtain ⟨-, E_s_NAIVE⟩ := id G
  have D := @hb _ _ hby
  have N0 := Fr.nil Z.heap.size
  have K0 : Keep h0 h0 [rb] := Keep.refl _ _
  obtain ⟨T140, X140, e140, st140⟩ := initO X0 hx hZ hown (own_w hw (i := 69) rfl) (own_w hw (i := 12) rfl) (own_w hw (i := 13) rfl) e0 (g := (mkF m 1 #[rv rb, iv 0, rv (A 0), rv fh, iv mm, .unset, .unset, .unset] [(.ref rb)])) rfl (by rw [hml]; rfl) rfl (D d8_1) (by decide) (W := 0) (Nat.le_of_eq rfl) (by decide)
  obtain ⟨T142, v142, L142, X142, q142, st142⟩ := callSt X140 hx hZ (y := own_m29) hown (own_w hw (i := 70) rfl) (own_w hw (i := 71) rfl) (own_w hw (i := 72) rfl) (own_w hw (i := 73) rfl) (by decide) (rm_reqm hw G mm  h0 O0 (prem0)) e140 (W := 0) (by decide) (by decide) (by decide) (by decide) (g := (mkF m 24 #[rv rb, iv 0, rv (A 0), rv fh, iv mm, .unset, .unset, .unset] [(.int mm)])) rfl (by rw [hml]; rfl) (argsL := [(.int mm)]) (rest := []) (lenOf pd31 rfl) rfl rfl (Nat.le_of_eq rfl) (D d8_24)
  obtain ⟨rfl, e142, rfl⟩ := q142
  have N142 := Fr.app N0 (Fr.nil _)
  obtain ⟨T143, v143, L143, X143, q143, st143⟩ := callVi X142 hx hZ (y := own_m25) (z := own_m25) hown (own_w hw (i := 74) rfl) (own_w hw (i := 75) rfl) (notFace_of_selects (args := #[]) (mvT hZ (own_w hw (i := 77) rfl))) (own_w hw (i := 77) rfl) (own_w hw (i := 76) rfl) (own_w hw (i := 78) rfl) (own_w hw (i := 54) rfl) (by decide) (rm_rate hw G fh  h0 O0 prem10 prem11 prem12 prem16) e142 (W := 0) (by decide) (by decide) (by decide) (by decide) (Exa.ext O0 E_s_NAIVE) (g := (mkF m 29 #[rv rb, iv 0, rv (A 0), rv fh, iv mm, .unset, .unset, .unset] [(.ref fh), (.ref (A 0))])) rfl (by rw [hml]; rfl) (argsL := [(.ref fh)]) (rest := []) (lenOf pd23 rfl) rfl rfl (Nat.le_of_eq rfl) (D d8_29)
  obtain ⟨rfl, e143, rfl⟩ := q143
  have N143 := Fr.app N142 (Fr.nil _)
  obtain ⟨T145, h145, X145, e145, W145, st145⟩ := putF X143 hx hZ hown (host := "") (Or.inl (own_w hw (i := 101) rfl)) Via.refl e143 prem2 prem1 (Or.inr ⟨(own_w hw (i := 102) rfl), rfl, hnm⟩) (own_w hw (i := 64) rfl) (ty := (.object "com/example/hernieuw/hernieuw/estimation/Estimator")) (by decide) rfl rfl (g := (mkF m 64 #[rv rb, iv 0, rv (A 0), rv fh, iv mm, .val (.double (4607182418800017408 : UInt64)), .second, .unset] [(.ref (A 0)), (.ref rb)])) rfl rfl (D d8_64)
  have O146 := Old0.wr O0 W145 prem9
  have K146 := Keep.wr K0 W145 (Or.inl (List.mem_of_getElem? (i := 0) rfl))
  have N145 := Fr.snoc X145 N143 prem9
  have f145 : Fld Z h145 rb "com/example/hernieuw/hernieuw/estimation/RateEstimates" "estimator" "Lcom/example/hernieuw/hernieuw/estimation/Estimator;" (.ref (A 0)) := Fld.same W145 prem2
  have f148 : Exa Z h145 rb "com/example/hernieuw/hernieuw/estimation/RateEstimates" := (Exa.wr W145 prem1)
  have f149 : Exa Z h145 fh "com/example/hernieuw/hernieuw/estimation/FetchHistory" := (Exa.wr W145 prem10)
  have f150 : Exa Z h145 ar "[D" := (Exa.wr W145 prem18)
  obtain ⟨T147, h147, b147, q147, X147, e147, E147, A147, D147, st147⟩ := newOb X145 hx hZ hown (own_w hw (i := 103) rfl) (own_w hw (i := 6) rfl) (own_w hw (i := 7) rfl) e145 (g := (mkF m 68 #[rv rb, iv 0, rv (A 0), rv fh, iv mm, .val (.double (4607182418800017408 : UInt64)), .second, .unset] [(.ref rb)])) rfl (D d8_68) (by decide) (by decide)
  have O151 := Old0.ext O146 E147
  have K151 := Keep.ext K146 E147
  have g_b147 : Z.heap.size ≤ b147 := q147 ▸ O146.1
  have z_b147 : h0.size ≤ b147 := q147 ▸ K146.1
  have ne_rb_b147 : rb ≠ b147 := q147 ▸ Nat.ne_of_lt f148.lt
  have ne_fh_b147 : fh ≠ b147 := q147 ▸ Nat.ne_of_lt f149.lt
  have ne_ar_b147 : ar ≠ b147 := q147 ▸ Nat.ne_of_lt f150.lt
  have f152 : Fld Z h147 b147 "com/example/hernieuw/hernieuw/estimation/FetchHistory" "shortestInterval" "D" (.double (0 : UInt64)) := D147 (Or.inl (own_w hw (i := 16) rfl)) (ty := .double) (by decide)
  have f153 : Fld Z h147 b147 "com/example/hernieuw/hernieuw/estimation/FetchHistory" "changedIntervals" "[D" .null := D147 (Or.inl (own_w hw (i := 19) rfl)) (ty := (.array .double)) (by decide)
  have f154 : Fld Z h147 b147 "com/example/hernieuw/hernieuw/estimation/FetchHistory" "days" "D" (.double (0 : UInt64)) := D147 (Or.inl (own_w hw (i := 42) rfl)) (ty := .double) (by decide)
  have f155 : Fld Z h147 b147 "com/example/hernieuw/hernieuw/estimation/FetchHistory" "fetches" "I" (.int 0) := D147 (Or.inl (own_w hw (i := 44) rfl)) (ty := .int) (by decide)
  have f156 : Fld Z h147 b147 "com/example/hernieuw/hernieuw/estimation/FetchHistory" "changes" "I" (.int 0) := D147 (Or.inl (own_w hw (i := 49) rfl)) (ty := .int) (by decide)
  have f157 : Fld Z h147 b147 "com/example/hernieuw/hernieuw/estimation/FetchHistory" "unchangedDays" "D" (.double (0 : UInt64)) := D147 (Or.inl (own_w hw (i := 108) rfl)) (ty := .double) (by decide)
  have f159 : Exa Z h147 fh "com/example/hernieuw/hernieuw/estimation/FetchHistory" := (Exa.ext E147 f149)
  have f160 : Fld Z h147 fh "com/example/hernieuw/hernieuw/estimation/FetchHistory" "fetches" "I" (.int 1) := (Fld.ext E147 (Fld.other W145 prem11 (Or.inl (Ne.symm prem19))))
  have f161 : Fld Z h147 fh "com/example/hernieuw/hernieuw/estimation/FetchHistory" "days" "D" (.double (4607182418800017408 : UInt64)) := (Fld.ext E147 (Fld.other W145 prem12 (Or.inl (Ne.symm prem19))))
  have f162 : Fld Z h147 fh "com/example/hernieuw/hernieuw/estimation/FetchHistory" "unchangedDays" "D" (.double (0 : UInt64)) := (Fld.ext E147 (Fld.other W145 prem13 (Or.inl (Ne.symm prem19))))
  have f163 : Fld Z h147 fh "com/example/hernieuw/hernieuw/estimation/FetchHistory" "shortestInterval" "D" (.double (4607182418800017408 : UInt64)) := (Fld.ext E147 (Fld.other W145 prem14 (Or.inl (Ne.symm prem19))))
  have f164 : Fld Z h147 fh "com/example/hernieuw/hernieuw/estimation/FetchHistory" "changedIntervals" "[D" (.ref ar) := (Fld.ext E147 (Fld.other W145 prem15 (Or.inl (Ne.symm prem19))))
  have f165 : Fld Z h147 fh "com/example/hernieuw/hernieuw/estimation/FetchHistory" "changes" "I" (.int 1) := (Fld.ext E147 (Fld.other W145 prem16 (Or.inl (Ne.symm prem19))))
  have f166 : Arv Z h147 ar ka .double (4 : Int32) [(.double (4607182418800017408 : UInt64)), (.double (0 : UInt64)), (.double (0 : UInt64)), (.double (0 : UInt64))] (.double (0 : UInt64)) := (Arv.ext (Arv.other prem17 W145 (Ne.symm prem20)) E147)
  have f167 : Exa Z h147 ar "[D" := (Exa.ext E147 f150)
  obtain ⟨T158, v158, L158, X158, q158, st158⟩ := callNew X147 hx hZ (y := own_m27) rfl hown (own_w hw (i := 104) rfl) (own_w hw (i := 105) rfl) (own_w hw (i := 7) rfl) (own_w hw (i := 106) rfl) (by decide) (rm_hcopy hw G b147 fh ar ka h147 O151 A147 f155 f154 f157 f152 f153 f156 g_b147 f159 f160 f161 f162 f163 f164 f165 f166 f167 (Ne.symm ne_fh_b147) (Ne.symm ne_ar_b147)) e147 (W := 2) (by decide) (by decide) (by decide) (by decide) (g := (mkF m 73 #[rv rb, iv 0, rv (A 0), rv fh, iv mm, .val (.double (4607182418800017408 : UInt64)), .second, .unset] [(.ref fh), (.ref b147), (.ref b147), (.ref rb)])) rfl (by rw [hml]; rfl) (a := b147) (argsL := [(.ref fh)]) (rest := [(.ref b147), (.ref rb)]) (lenOf pd32 rfl) rfl rfl (Nat.le_of_eq rfl) (D d8_73)
  obtain ⟨rfl, N158q, K158q⟩ := q158
  have N158 := Fr.app N145 N158q
  have O168 := Old0.keep O151 K158q (allS g_b147 all0)
  have K168 := Keep.trans K151 K158q (allS (Or.inr z_b147) all0)
  have f170 : Exa Z T158.heap rb "com/example/hernieuw/hernieuw/estimation/RateEstimates" := (Exa.keep (Exa.ext E147 f148) K158q)
  have f171 : Fld Z T158.heap rb "com/example/hernieuw/hernieuw/estimation/RateEstimates" "prior" "Lcom/example/hernieuw/hernieuw/estimation/FetchHistory;" .null := (Fld.keep (Fld.ext E147 (Fld.other W145 prem3 (Or.inr (slot_ne (Or.inr (own_w hw (i := 119) rfl)) (Or.inr (own_w hw (i := 102) rfl)) (by decide) (t := (.object "com/example/hernieuw/hernieuw/estimation/FetchHistory")) (t' := (.object "com/example/hernieuw/hernieuw/estimation/Estimator")) (by decide) (by decide))))) K158q (ninS ne_rb_b147 nin0))
  obtain ⟨T169, h169, X169, e169, W169, st169⟩ := putF X158 hx hZ hown (host := "") (Or.inl (own_w hw (i := 118) rfl)) Via.refl rfl f171 f170 (Or.inr ⟨(own_w hw (i := 119) rfl), rfl, hnm⟩) (own_w hw (i := 64) rfl) (ty := (.object "com/example/hernieuw/hernieuw/estimation/FetchHistory")) (by decide) rfl rfl (g := (mkF m 76 #[rv rb, iv 0, rv (A 0), rv fh, iv mm, .val (.double (4607182418800017408 : UInt64)), .second, .unset] [(.ref b147), (.ref rb)])) rfl rfl (D d8_76)
  have O172 := Old0.wr O168 W169 prem9
  have K172 := Keep.wr K168 W169 (Or.inl (List.mem_of_getElem? (i := 0) rfl))
  have N169 := Fr.snoc X169 N158 prem9
  have f169 : Fld Z h169 rb "com/example/hernieuw/hernieuw/estimation/RateEstimates" "prior" "Lcom/example/hernieuw/hernieuw/estimation/FetchHistory;" (.ref b147) := Fld.same W169 f171
  refine Go.of (T' := T169) (f' := (mkF m 80 #[rv rb, iv 0, rv (A 0), rv fh, iv mm, .val (.double (4607182418800017408 : UInt64)), .second, .unset] [(.ref rb)])) (fun _ k => XS.aloadN X0.here hx rfl (D d8_0) rfl rfl (st140 _ (XS.iloadN X140.here hx rfl (D d8_4) rfl (XS.ifYes X140.here hx rfl (pc0 := 5) (pc' := 22) rfl (D d8_5) rfl ((if0 _ _).trans (flt (by decide : ¬ ((0 : Int32) < (0 : Int32)))).2.1) (by decide) (by decide) (XS.iload X140.here hx rfl (D d8_22) rfl (st142 _ (XS.aloadN X142.here hx rfl (D d8_27) rfl rfl (XS.aloadN X142.here hx rfl (D d8_28) rfl rfl (st143 _ (XS.dstore X143.here hx rfl (D d8_32) rfl (l' := #[rv rb, iv 0, rv (A 0), rv fh, iv mm, .val (.double (4607182418800017408 : UInt64)), .second, .unset]) rfl (XS.dload X143.here hx rfl (D d8_34) rfl (X143.ldc2DoubleC hx hown (mvT hZ (own_w hw (i := 100) rfl)) (g := (mkF m 36 #[rv rb, iv 0, rv (A 0), rv fh, iv mm, .val (.double (4607182418800017408 : UInt64)), .second, .unset] [(.double (4607182418800017408 : UInt64))])) rfl (D d8_36) _ (XS.dcmpS X143.here hx rfl (D d8_39) rfl (v := (-1 : Int32)) (by decide +kernel) (XS.ifYes X143.here hx rfl (pc0 := 40) (pc' := 62) rfl (D d8_40) rfl ((if0 _ _).trans (feq (by decide : ¬ ((-1 : Int32) = (0 : Int32)))).2) (by decide) (by decide) (XS.aloadN X143.here hx rfl (D d8_62) rfl rfl (XS.aloadN X143.here hx rfl (D d8_63) rfl rfl (st145 _ (XS.aloadN X145.here hx rfl (D d8_67) rfl rfl (st147 _ (XS.dup X147.here hx rfl (D d8_71) rfl rfl (XS.aloadN X147.here hx rfl (D d8_72) rfl rfl (st158 _ (st169 _ (XS.aloadN X169.here hx rfl (D d8_79) rfl rfl k)))))))))))))))))))))))) ?_
  have f174 : Exa Z h169 rb "com/example/hernieuw/hernieuw/estimation/RateEstimates" := (Exa.wr W169 f170)
  have f175 : Fld Z h169 rb "com/example/hernieuw/hernieuw/estimation/RateEstimates" "priorRate" "D" (.double (0 : UInt64)) := (Fld.other W169 (Fld.keep (Fld.ext E147 (Fld.other W145 prem4 (Or.inr (slot_ne (Or.inr (own_w hw (i := 121) rfl)) (Or.inr (own_w hw (i := 102) rfl)) (by decide) (t := .double) (t' := (.object "com/example/hernieuw/hernieuw/estimation/Estimator")) (by decide) (by decide))))) K158q (ninS ne_rb_b147 nin0)) (Or.inr (slot_ne (Or.inr (own_w hw (i := 121) rfl)) (Or.inr (own_w hw (i := 119) rfl)) (by decide) (t := .double) (t' := (.object "com/example/hernieuw/hernieuw/estimation/FetchHistory")) (by decide) (by decide))))
  obtain ⟨T173, h173, X173, e173, W173, st173⟩ := putF X169 hx hZ hown (host := "") (Or.inl (own_w hw (i := 120) rfl)) Via.refl e169 f175 f174 (Or.inr ⟨(own_w hw (i := 121) rfl), rfl, hnm⟩) (own_w hw (i := 64) rfl) (ty := .double) (by decide) rfl rfl (g := (mkF m 82 #[rv rb, iv 0, rv (A 0), rv fh, iv mm, .val (.double (4607182418800017408 : UInt64)), .second, .unset] [(.double (4607182418800017408 : UInt64)), (.ref rb)])) rfl rfl (D d8_82)
  have O176 := Old0.wr O172 W173 prem9
  have K176 := Keep.wr K172 W173 (Or.inl (List.mem_of_getElem? (i := 0) rfl))
  have N173 := Fr.snoc X173 N169 prem9
  have f173 : Fld Z h173 rb "com/example/hernieuw/hernieuw/estimation/RateEstimates" "priorRate" "D" (.double (4607182418800017408 : UInt64)) := Fld.same W173 f175
  have f178 : Exa Z h173 rb "com/example/hernieuw/hernieuw/estimation/RateEstimates" := (Exa.wr W173 f174)
  have f179 : Fld Z h173 rb "com/example/hernieuw/hernieuw/estimation/RateEstimates" "memory" "I" (.int 0) := (Fld.other W173 (Fld.other W169 (Fld.keep (Fld.ext E147 (Fld.other W145 prem5 (Or.inr (slot_ne (Or.inr (own_w hw (i := 123) rfl)) (Or.inr (own_w hw (i := 102) rfl)) (by decide) (t := .int) (t' := (.object "com/example/hernieuw/hernieuw/estimation/Estimator")) (by decide) (by decide))))) K158q (ninS ne_rb_b147 nin0)) (Or.inr (slot_ne (Or.inr (own_w hw (i := 123) rfl)) (Or.inr (own_w hw (i := 119) rfl)) (by decide) (t := .int) (t' := (.object "com/example/hernieuw/hernieuw/estimation/FetchHistory")) (by decide) (by decide)))) (Or.inr (slot_ne (Or.inr (own_w hw (i := 123) rfl)) (Or.inr (own_w hw (i := 121) rfl)) (by decide) (t := .int) (t' := .double) (by decide) (by decide))))
  obtain ⟨T177, h177, X177, e177, W177, st177⟩ := putF X173 hx hZ hown (host := "") (Or.inl (own_w hw (i := 122) rfl)) Via.refl e173 f179 f178 (Or.inr ⟨(own_w hw (i := 123) rfl), rfl, hnm⟩) (own_w hw (i := 64) rfl) (ty := .int) (by decide) rfl rfl (g := (mkF m 88 #[rv rb, iv 0, rv (A 0), rv fh, iv mm, .val (.double (4607182418800017408 : UInt64)), .second, .unset] [(.int mm), (.ref rb)])) rfl rfl (D d8_88)
  have O180 := Old0.wr O176 W177 prem9
  have K180 := Keep.wr K176 W177 (Or.inl (List.mem_of_getElem? (i := 0) rfl))
  have N177 := Fr.snoc X177 N173 prem9
  have f177 : Fld Z h177 rb "com/example/hernieuw/hernieuw/estimation/RateEstimates" "memory" "I" (.int mm) := Fld.same W177 f179
  have f182 : Exa Z h177 rb "com/example/hernieuw/hernieuw/estimation/RateEstimates" := (Exa.wr W177 f178)
  have f183 : Exa Z h177 fh "com/example/hernieuw/hernieuw/estimation/FetchHistory" := (Exa.wr W177 (Exa.wr W173 (Exa.wr W169 (Exa.keep f159 K158q))))
  have f184 : Exa Z h177 ar "[D" := (Exa.wr W177 (Exa.wr W173 (Exa.wr W169 (Exa.keep f167 K158q))))
  have f185 : Exa Z h177 b147 "com/example/hernieuw/hernieuw/estimation/FetchHistory" := (Exa.wr W177 (Exa.wr W173 (Exa.wr W169 (Exa.keep A147 K158q))))
  obtain ⟨T181, h181, k181, b181, q181, X181, e181, E181, V181, A181, ov_b181, st181⟩ := newRr X177 hx hZ hown (own_w hw (i := 124) rfl) (own_w hw (i := 125) rfl) e177 (g := (mkF m 93 #[rv rb, iv 0, rv (A 0), rv fh, iv mm, .val (.double (4607182418800017408 : UInt64)), .second, .unset] [(.int 0), (.ref rb)])) rfl (D d8_93) rfl (by decide) (cap := 0) (by decide) (by decide) (by decide) (by decide) (ad := "[Lcom/example/hernieuw/hernieuw/estimation/RecentFetches;") (by decide)
  have O186 := Old0.ext O180 E181
  have K186 := Keep.ext K180 E181
  have g_b181 : Z.heap.size ≤ b181 := q181 ▸ O180.1
  have z_b181 : h0.size ≤ b181 := q181 ▸ K180.1
  have ne_rb_b181 : rb ≠ b181 := q181 ▸ Nat.ne_of_lt f182.lt
  have ne_fh_b181 : fh ≠ b181 := q181 ▸ Nat.ne_of_lt f183.lt
  have ne_ar_b181 : ar ≠ b181 := q181 ▸ Nat.ne_of_lt f184.lt
  have ne_b147_b181 : b147 ≠ b181 := q181 ▸ Nat.ne_of_lt f185.lt
  have f187 : Arv Z h181 b181 k181 (.object "com/example/hernieuw/hernieuw/estimation/RecentFetches") (0 : Int32) [] .null := Arv.pad V181 (pad_rep [] .null 0)
  have f189 : Exa Z h181 rb "com/example/hernieuw/hernieuw/estimation/RateEstimates" := (Exa.ext E181 f182)
  have f190 : Fld Z h181 rb "com/example/hernieuw/hernieuw/estimation/RateEstimates" "recent" "[Lcom/example/hernieuw/hernieuw/estimation/RecentFetches;" .null := (Fld.ext E181 (Fld.other W177 (Fld.other W173 (Fld.other W169 (Fld.keep (Fld.ext E147 (Fld.other W145 prem6 (Or.inr (slot_ne (Or.inl (own_w hw (i := 127) rfl)) (Or.inr (own_w hw (i := 102) rfl)) (by decide) (t := (.array (.object "com/example/hernieuw/hernieuw/estimation/RecentFetches"))) (t' := (.object "com/example/hernieuw/hernieuw/estimation/Estimator")) (by decide) (by decide))))) K158q (ninS ne_rb_b147 nin0)) (Or.inr (slot_ne (Or.inl (own_w hw (i := 127) rfl)) (Or.inr (own_w hw (i := 119) rfl)) (by decide) (t := (.array (.object "com/example/hernieuw/hernieuw/estimation/RecentFetches"))) (t' := (.object "com/example/hernieuw/hernieuw/estimation/FetchHistory")) (by decide) (by decide)))) (Or.inr (slot_ne (Or.inl (own_w hw (i := 127) rfl)) (Or.inr (own_w hw (i := 121) rfl)) (by decide) (t := (.array (.object "com/example/hernieuw/hernieuw/estimation/RecentFetches"))) (t' := .double) (by decide) (by decide)))) (Or.inr (slot_ne (Or.inl (own_w hw (i := 127) rfl)) (Or.inr (own_w hw (i := 123) rfl)) (by decide) (t := (.array (.object "com/example/hernieuw/hernieuw/estimation/RecentFetches"))) (t' := .int) (by decide) (by decide)))))
  obtain ⟨T188, h188, X188, e188, W188, st188⟩ := putF X181 hx hZ hown (host := "") (Or.inl (own_w hw (i := 126) rfl)) Via.refl e181 f190 f189 (Or.inl (own_w hw (i := 127) rfl)) (own_w hw (i := 64) rfl) (ty := (.array (.object "com/example/hernieuw/hernieuw/estimation/RecentFetches"))) (by decide) rfl rfl (g := (mkF m 96 #[rv rb, iv 0, rv (A 0), rv fh, iv mm, .val (.double (4607182418800017408 : UInt64)), .second, .unset] [(.ref b181), (.ref rb)])) rfl rfl (D d8_96)
  have O191 := Old0.wr O186 W188 prem9
  have K191 := Keep.wr K186 W188 (Or.inl (List.mem_of_getElem? (i := 0) rfl))
  have N188 := Fr.snoc X188 N177 prem9
  have f188 : Fld Z h188 rb "com/example/hernieuw/hernieuw/estimation/RateEstimates" "recent" "[Lcom/example/hernieuw/hernieuw/estimation/RecentFetches;" (.ref b181) := Fld.same W188 f190
  have f193 : Exa Z h188 rb "com/example/hernieuw/hernieuw/estimation/RateEstimates" := (Exa.wr W188 f189)
  have f194 : Exa Z h188 fh "com/example/hernieuw/hernieuw/estimation/FetchHistory" := (Exa.wr W188 (Exa.ext E181 f183))
  have f195 : Exa Z h188 ar "[D" := (Exa.wr W188 (Exa.ext E181 f184))
  have f196 : Exa Z h188 b147 "com/example/hernieuw/hernieuw/estimation/FetchHistory" := (Exa.wr W188 (Exa.ext E181 f185))
  have f197 : Exa Z h188 b181 "[Lcom/example/hernieuw/hernieuw/estimation/RecentFetches;" := (Exa.wr W188 A181)
  obtain ⟨T192, h192, k192, b192, q192, X192, e192, E192, V192, A192, st192⟩ := newAr X188 hx hZ (own_w hw (i := 17) rfl) e188 (g := (mkF m 101 #[rv rb, iv 0, rv (A 0), rv fh, iv mm, .val (.double (4607182418800017408 : UInt64)), .second, .unset] [(.int 0), (.ref rb)])) rfl (D d8_101) rfl (by decide) (cap := 0) (by decide) (by decide) (by decide) (by decide) (ad := "[D") (by decide)
  have O198 := Old0.ext O191 E192
  have K198 := Keep.ext K191 E192
  have g_b192 : Z.heap.size ≤ b192 := q192 ▸ O191.1
  have z_b192 : h0.size ≤ b192 := q192 ▸ K191.1
  have ne_rb_b192 : rb ≠ b192 := q192 ▸ Nat.ne_of_lt f193.lt
  have ne_fh_b192 : fh ≠ b192 := q192 ▸ Nat.ne_of_lt f194.lt
  have ne_ar_b192 : ar ≠ b192 := q192 ▸ Nat.ne_of_lt f195.lt
  have ne_b147_b192 : b147 ≠ b192 := q192 ▸ Nat.ne_of_lt f196.lt
  have ne_b181_b192 : b181 ≠ b192 := q192 ▸ Nat.ne_of_lt f197.lt
  have f199 : Arv Z h192 b192 k192 .double (0 : Int32) [] (.double (0 : UInt64)) := Arv.pad V192 (pad_rep [] (.double (0 : UInt64)) 0)
  have f201 : Exa Z h192 rb "com/example/hernieuw/hernieuw/estimation/RateEstimates" := (Exa.ext E192 f193)
  have f202 : Fld Z h192 rb "com/example/hernieuw/hernieuw/estimation/RateEstimates" "rates" "[D" .null := (Fld.ext E192 (Fld.other W188 (Fld.ext E181 (Fld.other W177 (Fld.other W173 (Fld.other W169 (Fld.keep (Fld.ext E147 (Fld.other W145 prem7 (Or.inr (slot_ne (Or.inl (own_w hw (i := 129) rfl)) (Or.inr (own_w hw (i := 102) rfl)) (by decide) (t := (.array .double)) (t' := (.object "com/example/hernieuw/hernieuw/estimation/Estimator")) (by decide) (by decide))))) K158q (ninS ne_rb_b147 nin0)) (Or.inr (slot_ne (Or.inl (own_w hw (i := 129) rfl)) (Or.inr (own_w hw (i := 119) rfl)) (by decide) (t := (.array .double)) (t' := (.object "com/example/hernieuw/hernieuw/estimation/FetchHistory")) (by decide) (by decide)))) (Or.inr (slot_ne (Or.inl (own_w hw (i := 129) rfl)) (Or.inr (own_w hw (i := 121) rfl)) (by decide) (t := (.array .double)) (t' := .double) (by decide) (by decide)))) (Or.inr (slot_ne (Or.inl (own_w hw (i := 129) rfl)) (Or.inr (own_w hw (i := 123) rfl)) (by decide) (t := (.array .double)) (t' := .int) (by decide) (by decide))))) (Or.inr (slot_ne (Or.inl (own_w hw (i := 129) rfl)) (Or.inl (own_w hw (i := 127) rfl)) (by decide) (t := (.array .double)) (t' := (.array (.object "com/example/hernieuw/hernieuw/estimation/RecentFetches"))) (by decide) (by decide)))))
  obtain ⟨T200, h200, X200, e200, W200, st200⟩ := putF X192 hx hZ hown (host := "") (Or.inl (own_w hw (i := 128) rfl)) Via.refl e192 f202 f201 (Or.inl (own_w hw (i := 129) rfl)) (own_w hw (i := 64) rfl) (ty := (.array .double)) (by decide) rfl rfl (g := (mkF m 103 #[rv rb, iv 0, rv (A 0), rv fh, iv mm, .val (.double (4607182418800017408 : UInt64)), .second, .unset] [(.ref b192), (.ref rb)])) rfl rfl (D d8_103)
  have O203 := Old0.wr O198 W200 prem9
  have K203 := Keep.wr K198 W200 (Or.inl (List.mem_of_getElem? (i := 0) rfl))
  have N200 := Fr.snoc X200 N188 prem9
  have f200 : Fld Z h200 rb "com/example/hernieuw/hernieuw/estimation/RateEstimates" "rates" "[D" (.ref b192) := Fld.same W200 f202
  have f205 : Exa Z h200 rb "com/example/hernieuw/hernieuw/estimation/RateEstimates" := (Exa.wr W200 f201)
  have f206 : Exa Z h200 fh "com/example/hernieuw/hernieuw/estimation/FetchHistory" := (Exa.wr W200 (Exa.ext E192 f194))
  have f207 : Exa Z h200 ar "[D" := (Exa.wr W200 (Exa.ext E192 f195))
  have f208 : Exa Z h200 b147 "com/example/hernieuw/hernieuw/estimation/FetchHistory" := (Exa.wr W200 (Exa.ext E192 f196))
  have f209 : Exa Z h200 b181 "[Lcom/example/hernieuw/hernieuw/estimation/RecentFetches;" := (Exa.wr W200 (Exa.ext E192 f197))
  have f210 : Exa Z h200 b192 "[D" := (Exa.wr W200 A192)
  obtain ⟨T204, h204, k204, b204, q204, X204, e204, E204, V204, A204, st204⟩ := newAr X200 hx hZ (own_w hw (i := 130) rfl) e200 (g := (mkF m 108 #[rv rb, iv 0, rv (A 0), rv fh, iv mm, .val (.double (4607182418800017408 : UInt64)), .second, .unset] [(.int 0), (.ref rb)])) rfl (D d8_108) rfl (by decide) (cap := 0) (by decide) (by decide) (by decide) (by decide) (ad := "[Z") (by decide)
  have O211 := Old0.ext O203 E204
  have K211 := Keep.ext K203 E204
  have g_b204 : Z.heap.size ≤ b204 := q204 ▸ O203.1
  have z_b204 : h0.size ≤ b204 := q204 ▸ K203.1
  have ne_rb_b204 : rb ≠ b204 := q204 ▸ Nat.ne_of_lt f205.lt
  have ne_fh_b204 : fh ≠ b204 := q204 ▸ Nat.ne_of_lt f206.lt
  have ne_ar_b204 : ar ≠ b204 := q204 ▸ Nat.ne_of_lt f207.lt
  have ne_b147_b204 : b147 ≠ b204 := q204 ▸ Nat.ne_of_lt f208.lt
  have ne_b181_b204 : b181 ≠ b204 := q204 ▸ Nat.ne_of_lt f209.lt
  have ne_b192_b204 : b192 ≠ b204 := q204 ▸ Nat.ne_of_lt f210.lt
  have f212 : Arv Z h204 b204 k204 .boolean (0 : Int32) [] (.int 0) := Arv.pad V204 (pad_rep [] (.int 0) 0)
  have f214 : Exa Z h204 rb "com/example/hernieuw/hernieuw/estimation/RateEstimates" := (Exa.ext E204 f205)
  have f215 : Fld Z h204 rb "com/example/hernieuw/hernieuw/estimation/RateEstimates" "estimated" "[Z" .null := (Fld.ext E204 (Fld.other W200 (Fld.ext E192 (Fld.other W188 (Fld.ext E181 (Fld.other W177 (Fld.other W173 (Fld.other W169 (Fld.keep (Fld.ext E147 (Fld.other W145 prem8 (Or.inr (slot_ne (Or.inl (own_w hw (i := 132) rfl)) (Or.inr (own_w hw (i := 102) rfl)) (by decide) (t := (.array .boolean)) (t' := (.object "com/example/hernieuw/hernieuw/estimation/Estimator")) (by decide) (by decide))))) K158q (ninS ne_rb_b147 nin0)) (Or.inr (slot_ne (Or.inl (own_w hw (i := 132) rfl)) (Or.inr (own_w hw (i := 119) rfl)) (by decide) (t := (.array .boolean)) (t' := (.object "com/example/hernieuw/hernieuw/estimation/FetchHistory")) (by decide) (by decide)))) (Or.inr (slot_ne (Or.inl (own_w hw (i := 132) rfl)) (Or.inr (own_w hw (i := 121) rfl)) (by decide) (t := (.array .boolean)) (t' := .double) (by decide) (by decide)))) (Or.inr (slot_ne (Or.inl (own_w hw (i := 132) rfl)) (Or.inr (own_w hw (i := 123) rfl)) (by decide) (t := (.array .boolean)) (t' := .int) (by decide) (by decide))))) (Or.inr (slot_ne (Or.inl (own_w hw (i := 132) rfl)) (Or.inl (own_w hw (i := 127) rfl)) (by decide) (t := (.array .boolean)) (t' := (.array (.object "com/example/hernieuw/hernieuw/estimation/RecentFetches"))) (by decide) (by decide))))) (Or.inr (slot_ne (Or.inl (own_w hw (i := 132) rfl)) (Or.inl (own_w hw (i := 129) rfl)) (by decide) (t := (.array .boolean)) (t' := (.array .double)) (by decide) (by decide)))))
  obtain ⟨T213, h213, X213, e213, W213, st213⟩ := putF X204 hx hZ hown (host := "") (Or.inl (own_w hw (i := 131) rfl)) Via.refl e204 f215 f214 (Or.inl (own_w hw (i := 132) rfl)) (own_w hw (i := 64) rfl) (ty := (.array .boolean)) (by decide) rfl rfl (g := (mkF m 110 #[rv rb, iv 0, rv (A 0), rv fh, iv mm, .val (.double (4607182418800017408 : UInt64)), .second, .unset] [(.ref b204), (.ref rb)])) rfl rfl (D d8_110)
  have O216 := Old0.wr O211 W213 prem9
  have K216 := Keep.wr K211 W213 (Or.inl (List.mem_of_getElem? (i := 0) rfl))
  have N213 := Fr.snoc X213 N200 prem9
  have f213 : Fld Z h213 rb "com/example/hernieuw/hernieuw/estimation/RateEstimates" "estimated" "[Z" (.ref b204) := Fld.same W213 f215
  refine Go.of (T' := T213) (f' := (mkF m 133 #[rv rb, iv 0, rv (A 0), rv fh, iv mm, .val (.double (4607182418800017408 : UInt64)), .second, iv 0] [])) (fun _ k => XS.dload X169.here hx rfl (D d8_80) rfl (st173 _ (XS.aloadN X173.here hx rfl (D d8_85) rfl rfl (XS.iload X173.here hx rfl (D d8_86) rfl (st177 _ (XS.aloadN X177.here hx rfl (D d8_91) rfl rfl (XS.iloadN X177.here hx rfl (D d8_92) rfl (st181 _ (st188 _ (XS.aloadN X188.here hx rfl (D d8_99) rfl rfl (XS.iloadN X188.here hx rfl (D d8_100) rfl (st192 _ (st200 _ (XS.aloadN X200.here hx rfl (D d8_106) rfl rfl (XS.iloadN X200.here hx rfl (D d8_107) rfl (st204 _ (st213 _ (XS.iconst X213.here hx rfl (D d8_113) (XS.istore X213.here hx rfl (D d8_114) rfl (l' := #[rv rb, iv 0, rv (A 0), rv fh, iv mm, .val (.double (4607182418800017408 : UInt64)), .second, iv 0]) rfl (XS.iload X213.here hx rfl (D d8_116) rfl (XS.iloadN X213.here hx rfl (D d8_118) rfl (XS.icmpYes X213.here hx rfl (pc0 := 119) (pc' := 133) rfl (D d8_119) rfl (flt (by decide : ¬ ((0 : Int32) < (0 : Int32)))).2.1 (by decide) (by decide) k)))))))))))))))))))))) ?_
  exact Go.retV X213 hx hlk hret (D d8_133) (by decide) (by decide) (by rw [e213]; exact ⟨rfl, N213, K216⟩)
theorem d7_0 : decode prog_50_method_1_code 0 = .ok (.aload_n 0, 1) := by decide +kernel
theorem d7_1 : decode prog_50_method_1_code 1 = .ok (.invokespecial 3, 3) := by decide +kernel
theorem d7_4 : decode prog_50_method_1_code 4 = .ok (.aload_n 0, 1) := by decide +kernel
theorem d7_5 : decode prog_50_method_1_code 5 = .ok (.bipush 16, 2) := by decide +kernel
theorem d7_7 : decode prog_50_method_1_code 7 = .ok (.newarray .long, 2) := by decide +kernel
theorem d7_9 : decode prog_50_method_1_code 9 = .ok (.putfield 9, 3) := by decide +kernel
theorem d7_12 : decode prog_50_method_1_code 12 = .ok (.aload_n 0, 1) := by decide +kernel
theorem d7_13 : decode prog_50_method_1_code 13 = .ok (.new 15, 3) := by decide +kernel
theorem d7_16 : decode prog_50_method_1_code 16 = .ok (.dup, 1) := by decide +kernel
theorem d7_17 : decode prog_50_method_1_code 17 = .ok (.iconst 0, 1) := by decide +kernel
theorem d7_18 : decode prog_50_method_1_code 18 = .ok (.aload_n 1, 1) := by decide +kernel
theorem d7_19 : decode prog_50_method_1_code 19 = .ok (.aload_n 2, 1) := by decide +kernel
theorem d7_20 : decode prog_50_method_1_code 20 = .ok (.iload_n 3, 1) := by decide +kernel
theorem d7_21 : decode prog_50_method_1_code 21 = .ok (.invokespecial 17, 3) := by decide +kernel
theorem pd35 : parseMethodDescriptor "(ILcom/example/hernieuw/hernieuw/estimation/Estimator;Lcom/example/hernieuw/hernieuw/estimation/FetchHistory;I)V" = some ⟨[.int, (.object "com/example/hernieuw/hernieuw/estimation/Estimator"), (.object "com/example/hernieuw/hernieuw/estimation/FetchHistory"), .int], none⟩ := by decide +kernel
theorem d7_24 : decode prog_50_method_1_code 24 = .ok (.putfield 20, 3) := by decide +kernel
theorem d7_27 : decode prog_50_method_1_code 27 = .ok (.aload_n 0, 1) := by decide +kernel
theorem d7_28 : decode prog_50_method_1_code 28 = .ok (.iload_n 3, 1) := by decide +kernel
theorem d7_29 : decode prog_50_method_1_code 29 = .ok (.putfield 24, 3) := by decide +kernel
theorem d7_32 : decode prog_50_method_1_code 32 = .ok (.return_, 1) := by decide +kernel
abbrev own_m36 : MethodName := (⟨"com/example/hernieuw/hernieuw/crawl/UrlRates", "<init>", "(Lcom/example/hernieuw/hernieuw/estimation/Estimator;Lcom/example/hernieuw/hernieuw/estimation/FetchHistory;I)V"⟩ : MethodName)
theorem ef_rm_urinit (m : MethodId) {A : Nat → Addr} (ub : Addr) (fh : Addr) (mm : Int32) : entryFrame m #[(.ref ub), (.ref (A 0)), (.ref fh), (.int mm)] 4 = mkF m 0 #[rv ub, rv (A 0), rv fh, iv mm] [] := by first | (simp [entryFrame, mkF, argsToLocals, Value.category]; done) | rfl
theorem pn37 : plainFor (⟨"com/example/hernieuw/hernieuw/crawl/UrlRates", "<init>", "(Lcom/example/hernieuw/hernieuw/estimation/Estimator;Lcom/example/hernieuw/hernieuw/estimation/FetchHistory;I)V"⟩ : MethodName) = true := by first | exact plainFor_of_name (by first | (simp [plainName, overriddenIn]; done) | decide +kernel) | decide +kernel
set_option maxRecDepth 65536 in
set_option maxHeartbeats 40000000 in
theorem rm_urinit {l : Launch} {Z : State} {a0 : Array Value} {A : Nat → Addr} {KC : Nat → Cell} {IC : Nat → Int32} {VC : Nat → Value} (hw : ∀ d ∈ tables_1, d.before a0 Z = true) (G : own_Ctx Z A KC IC VC) (ub : Addr) (fh : Addr) (mm : Int32) (ar : Addr) (ka : ClassId) (h0 : Heap) (O0 : Ext Z.heap h0) (prem0 : ¬ (mm < (1 : Int32))) (prem1 : Exa Z h0 ub "com/example/hernieuw/hernieuw/crawl/UrlRates") (prem2 : Fld Z h0 ub "com/example/hernieuw/hernieuw/crawl/UrlRates" "lastSeen" "[J" .null) (prem3 : Fld Z h0 ub "com/example/hernieuw/hernieuw/crawl/UrlRates" "estimates" "Lcom/example/hernieuw/hernieuw/estimation/RateEstimates;" .null) (prem4 : Fld Z h0 ub "com/example/hernieuw/hernieuw/crawl/UrlRates" "memory" "I" (.int (0 : Int32))) (prem5 : Z.heap.size ≤ ub) (prem6 : Exa Z h0 fh "com/example/hernieuw/hernieuw/estimation/FetchHistory") (prem7 : Fld Z h0 fh "com/example/hernieuw/hernieuw/estimation/FetchHistory" "fetches" "I" (.int (1 : Int32))) (prem8 : Fld Z h0 fh "com/example/hernieuw/hernieuw/estimation/FetchHistory" "days" "D" (.double (4607182418800017408 : UInt64))) (prem9 : Fld Z h0 fh "com/example/hernieuw/hernieuw/estimation/FetchHistory" "unchangedDays" "D" (.double (0 : UInt64))) (prem10 : Fld Z h0 fh "com/example/hernieuw/hernieuw/estimation/FetchHistory" "shortestInterval" "D" (.double (4607182418800017408 : UInt64))) (prem11 : Fld Z h0 fh "com/example/hernieuw/hernieuw/estimation/FetchHistory" "changedIntervals" "[D" (.ref ar)) (prem12 : Fld Z h0 fh "com/example/hernieuw/hernieuw/estimation/FetchHistory" "changes" "I" (.int (1 : Int32))) (prem13 : Arv Z h0 ar ka .double (4 : Int32) [(.double (4607182418800017408 : UInt64)), (.double (0 : UInt64)), (.double (0 : UInt64)), (.double (0 : UInt64))] (.double (0 : UInt64))) (prem14 : Exa Z h0 ar "[D") (prem15 : ub ≠ fh) (prem16 : ub ≠ ar) :
    Ok l Z own_m36 prog_50_method_1_code 4 none ({ frames := 4, cells := 8, slots := 38, locals := 61 } : Room) #[(.ref ub), (.ref (A 0)), (.ref fh), (.int mm)] h0
      (fun v h L => v = none ∧ (Fr Z.heap.size L) ∧ (Keep h0 h [ub]) ∧ (Fld Z h ub "com/example/hernieuw/hernieuw/crawl/UrlRates" "memory" "I" (.int mm))) := by
  refine Ok.mk pn37 ?_
  intro p e s m below meth c T0 hx hby hml hown hnm hret hlk hZ e0 X0
  refine Go.cast (ef_rm_urinit m ub fh mm) ?_
  have D := @hb _ _ hby
  have N0 := Fr.nil Z.heap.size
  have K0 : Keep h0 h0 [ub] := Keep.refl _ _
  obtain ⟨T218, X218, e218, st218⟩ := initO X0 hx hZ hown (own_w hw (i := 59) rfl) (own_w hw (i := 12) rfl) (own_w hw (i := 13) rfl) e0 (g := (mkF m 1 #[rv ub, rv (A 0), rv fh, iv mm] [(.ref ub)])) rfl (by rw [hml]; rfl) rfl (D d7_1) (by decide) (W := 0) (Nat.le_of_eq rfl) (by decide)
  obtain ⟨T219, h219, k219, b219, q219, X219, e219, E219, V219, A219, st219⟩ := newAr X218 hx hZ (own_w hw (i := 60) rfl) e218 (g := (mkF m 7 #[rv ub, rv (A 0), rv fh, iv mm] [(.int 16), (.ref ub)])) rfl (D d7_7) rfl (by decide) (cap := 16) (by decide) (by decide) (by decide) (by decide) (ad := "[J") (by decide)
  have O220 := Old0.ext O0 E219
  have K220 := Keep.ext K0 E219
  have g_b219 : Z.heap.size ≤ b219 := q219 ▸ O0.1
  have z_b219 : h0.size ≤ b219 := q219 ▸ K0.1
  have ne_ub_b219 : ub ≠ b219 := q219 ▸ Nat.ne_of_lt prem1.lt
  have ne_fh_b219 : fh ≠ b219 := q219 ▸ Nat.ne_of_lt prem6.lt
  have ne_ar_b219 : ar ≠ b219 := q219 ▸ Nat.ne_of_lt prem14.lt
  have f221 : Arv Z h219 b219 k219 .long (16 : Int32) [(.long (0 : Int64)), (.long (0 : Int64)), (.long (0 : Int64)), (.long (0 : Int64)), (.long (0 : Int64)), (.long (0 : Int64)), (.long (0 : Int64)), (.long (0 : Int64)), (.long (0 : Int64)), (.long (0 : Int64)), (.long (0 : Int64)), (.long (0 : Int64)), (.long (0 : Int64)), (.long (0 : Int64)), (.long (0 : Int64)), (.long (0 : Int64))] (.long (0 : Int64)) := Arv.pad V219 (pad_rep [] (.long (0 : Int64)) 16)
  have f223 : Exa Z h219 ub "com/example/hernieuw/hernieuw/crawl/UrlRates" := (Exa.ext E219 prem1)
  have f224 : Fld Z h219 ub "com/example/hernieuw/hernieuw/crawl/UrlRates" "lastSeen" "[J" .null := (Fld.ext E219 prem2)
  obtain ⟨T222, h222, X222, e222, W222, st222⟩ := putF X219 hx hZ hown (host := "") (Or.inl (own_w hw (i := 61) rfl)) Via.refl e219 f224 f223 (Or.inl (own_w hw (i := 62) rfl)) (own_w hw (i := 51) rfl) (ty := (.array .long)) (by decide) rfl rfl (g := (mkF m 9 #[rv ub, rv (A 0), rv fh, iv mm] [(.ref b219), (.ref ub)])) rfl rfl (D d7_9)
  have O225 := Old0.wr O220 W222 prem5
  have K225 := Keep.wr K220 W222 (Or.inl (List.mem_of_getElem? (i := 0) rfl))
  have N222 := Fr.snoc X222 N0 prem5
  have f222 : Fld Z h222 ub "com/example/hernieuw/hernieuw/crawl/UrlRates" "lastSeen" "[J" (.ref b219) := Fld.same W222 f224
  have f227 : Exa Z h222 ub "com/example/hernieuw/hernieuw/crawl/UrlRates" := (Exa.wr W222 f223)
  have f228 : Exa Z h222 fh "com/example/hernieuw/hernieuw/estimation/FetchHistory" := (Exa.wr W222 (Exa.ext E219 prem6))
  have f229 : Exa Z h222 ar "[D" := (Exa.wr W222 (Exa.ext E219 prem14))
  have f230 : Exa Z h222 b219 "[J" := (Exa.wr W222 A219)
  obtain ⟨T226, h226, b226, q226, X226, e226, E226, A226, D226, st226⟩ := newOb X222 hx hZ hown (own_w hw (i := 63) rfl) (own_w hw (i := 64) rfl) (own_w hw (i := 65) rfl) e222 (g := (mkF m 13 #[rv ub, rv (A 0), rv fh, iv mm] [(.ref ub)])) rfl (D d7_13) (by decide) (by decide)
  have O231 := Old0.ext O225 E226
  have K231 := Keep.ext K225 E226
  have g_b226 : Z.heap.size ≤ b226 := q226 ▸ O225.1
  have z_b226 : h0.size ≤ b226 := q226 ▸ K225.1
  have ne_ub_b226 : ub ≠ b226 := q226 ▸ Nat.ne_of_lt f227.lt
  have ne_fh_b226 : fh ≠ b226 := q226 ▸ Nat.ne_of_lt f228.lt
  have ne_ar_b226 : ar ≠ b226 := q226 ▸ Nat.ne_of_lt f229.lt
  have ne_b219_b226 : b219 ≠ b226 := q226 ▸ Nat.ne_of_lt f230.lt
  have f232 : Fld Z h226 b226 "com/example/hernieuw/hernieuw/estimation/RateEstimates" "estimator" "Lcom/example/hernieuw/hernieuw/estimation/Estimator;" .null := D226 (Or.inr (own_w hw (i := 102) rfl)) (ty := (.object "com/example/hernieuw/hernieuw/estimation/Estimator")) (by decide)
  have f233 : Fld Z h226 b226 "com/example/hernieuw/hernieuw/estimation/RateEstimates" "prior" "Lcom/example/hernieuw/hernieuw/estimation/FetchHistory;" .null := D226 (Or.inr (own_w hw (i := 119) rfl)) (ty := (.object "com/example/hernieuw/hernieuw/estimation/FetchHistory")) (by decide)
  have f234 : Fld Z h226 b226 "com/example/hernieuw/hernieuw/estimation/RateEstimates" "priorRate" "D" (.double (0 : UInt64)) := D226 (Or.inr (own_w hw (i := 121) rfl)) (ty := .double) (by decide)
  have f235 : Fld Z h226 b226 "com/example/hernieuw/hernieuw/estimation/RateEstimates" "memory" "I" (.int 0) := D226 (Or.inr (own_w hw (i := 123) rfl)) (ty := .int) (by decide)
  have f236 : Fld Z h226 b226 "com/example/hernieuw/hernieuw/estimation/RateEstimates" "recent" "[Lcom/example/hernieuw/hernieuw/estimation/RecentFetches;" .null := D226 (Or.inl (own_w hw (i := 127) rfl)) (ty := (.array (.object "com/example/hernieuw/hernieuw/estimation/RecentFetches"))) (by decide)
  have f237 : Fld Z h226 b226 "com/example/hernieuw/hernieuw/estimation/RateEstimates" "rates" "[D" .null := D226 (Or.inl (own_w hw (i := 129) rfl)) (ty := (.array .double)) (by decide)
  have f238 : Fld Z h226 b226 "com/example/hernieuw/hernieuw/estimation/RateEstimates" "estimated" "[Z" .null := D226 (Or.inl (own_w hw (i := 132) rfl)) (ty := (.array .boolean)) (by decide)
  have f240 : Exa Z h226 fh "com/example/hernieuw/hernieuw/estimation/FetchHistory" := (Exa.ext E226 f228)
  have f241 : Fld Z h226 fh "com/example/hernieuw/hernieuw/estimation/FetchHistory" "fetches" "I" (.int 1) := (Fld.ext E226 (Fld.other W222 (Fld.ext E219 prem7) (Or.inl (Ne.symm prem15))))
  have f242 : Fld Z h226 fh "com/example/hernieuw/hernieuw/estimation/FetchHistory" "days" "D" (.double (4607182418800017408 : UInt64)) := (Fld.ext E226 (Fld.other W222 (Fld.ext E219 prem8) (Or.inl (Ne.symm prem15))))
  have f243 : Fld Z h226 fh "com/example/hernieuw/hernieuw/estimation/FetchHistory" "unchangedDays" "D" (.double (0 : UInt64)) := (Fld.ext E226 (Fld.other W222 (Fld.ext E219 prem9) (Or.inl (Ne.symm prem15))))
  have f244 : Fld Z h226 fh "com/example/hernieuw/hernieuw/estimation/FetchHistory" "shortestInterval" "D" (.double (4607182418800017408 : UInt64)) := (Fld.ext E226 (Fld.other W222 (Fld.ext E219 prem10) (Or.inl (Ne.symm prem15))))
  have f245 : Fld Z h226 fh "com/example/hernieuw/hernieuw/estimation/FetchHistory" "changedIntervals" "[D" (.ref ar) := (Fld.ext E226 (Fld.other W222 (Fld.ext E219 prem11) (Or.inl (Ne.symm prem15))))
  have f246 : Fld Z h226 fh "com/example/hernieuw/hernieuw/estimation/FetchHistory" "changes" "I" (.int 1) := (Fld.ext E226 (Fld.other W222 (Fld.ext E219 prem12) (Or.inl (Ne.symm prem15))))
  have f247 : Arv Z h226 ar ka .double (4 : Int32) [(.double (4607182418800017408 : UInt64)), (.double (0 : UInt64)), (.double (0 : UInt64)), (.double (0 : UInt64))] (.double (0 : UInt64)) := (Arv.ext (Arv.other (Arv.ext prem13 E219) W222 (Ne.symm prem16)) E226)
  have f248 : Exa Z h226 ar "[D" := (Exa.ext E226 f229)
  obtain ⟨T239, v239, L239, X239, q239, st239⟩ := callNew X226 hx hZ (y := own_m33) rfl hown (own_w hw (i := 66) rfl) (own_w hw (i := 67) rfl) (own_w hw (i := 65) rfl) (own_w hw (i := 68) rfl) (by decide) (rm_reinit hw G b226 fh mm ar ka h226 O231 (prem0) A226 f232 f233 f234 f235 f236 f237 f238 g_b226 f240 f241 f242 f243 f244 f245 f246 f247 f248 (Ne.symm ne_fh_b226) (Ne.symm ne_ar_b226)) e226 (W := 2) (by decide) (by decide) (by decide) (by decide) (g := (mkF m 21 #[rv ub, rv (A 0), rv fh, iv mm] [(.int mm), (.ref fh), (.ref (A 0)), (.int 0), (.ref b226), (.ref b226), (.ref ub)])) rfl (by rw [hml]; rfl) (a := b226) (argsL := [(.int 0), (.ref (A 0)), (.ref fh), (.int mm)]) (rest := [(.ref b226), (.ref ub)]) (lenOf pd35 rfl) rfl rfl (Nat.le_of_eq rfl) (D d7_21)
  obtain ⟨rfl, N239q, K239q⟩ := q239
  have N239 := Fr.app N222 N239q
  have O249 := Old0.keep O231 K239q (allS g_b226 all0)
  have K249 := Keep.trans K231 K239q (allS (Or.inr z_b226) all0)
  have f251 : Exa Z T239.heap ub "com/example/hernieuw/hernieuw/crawl/UrlRates" := (Exa.keep (Exa.ext E226 f227) K239q)
  have f252 : Fld Z T239.heap ub "com/example/hernieuw/hernieuw/crawl/UrlRates" "estimates" "Lcom/example/hernieuw/hernieuw/estimation/RateEstimates;" .null := (Fld.keep (Fld.ext E226 (Fld.other W222 (Fld.ext E219 prem3) (Or.inr (slot_ne (Or.inr (own_w hw (i := 134) rfl)) (Or.inl (own_w hw (i := 62) rfl)) (by decide) (t := (.object "com/example/hernieuw/hernieuw/estimation/RateEstimates")) (t' := (.array .long)) (by decide) (by decide))))) K239q (ninS ne_ub_b226 nin0))
  obtain ⟨T250, h250, X250, e250, W250, st250⟩ := putF X239 hx hZ hown (host := "") (Or.inl (own_w hw (i := 133) rfl)) Via.refl rfl f252 f251 (Or.inr ⟨(own_w hw (i := 134) rfl), rfl, hnm⟩) (own_w hw (i := 51) rfl) (ty := (.object "com/example/hernieuw/hernieuw/estimation/RateEstimates")) (by decide) rfl rfl (g := (mkF m 24 #[rv ub, rv (A 0), rv fh, iv mm] [(.ref b226), (.ref ub)])) rfl rfl (D d7_24)
  have O253 := Old0.wr O249 W250 prem5
  have K253 := Keep.wr K249 W250 (Or.inl (List.mem_of_getElem? (i := 0) rfl))
  have N250 := Fr.snoc X250 N239 prem5
  have f250 : Fld Z h250 ub "com/example/hernieuw/hernieuw/crawl/UrlRates" "estimates" "Lcom/example/hernieuw/hernieuw/estimation/RateEstimates;" (.ref b226) := Fld.same W250 f252
  have f255 : Exa Z h250 ub "com/example/hernieuw/hernieuw/crawl/UrlRates" := (Exa.wr W250 f251)
  have f256 : Fld Z h250 ub "com/example/hernieuw/hernieuw/crawl/UrlRates" "memory" "I" (.int 0) := (Fld.other W250 (Fld.keep (Fld.ext E226 (Fld.other W222 (Fld.ext E219 prem4) (Or.inr (slot_ne (Or.inr (own_w hw (i := 136) rfl)) (Or.inl (own_w hw (i := 62) rfl)) (by decide) (t := .int) (t' := (.array .long)) (by decide) (by decide))))) K239q (ninS ne_ub_b226 nin0)) (Or.inr (slot_ne (Or.inr (own_w hw (i := 136) rfl)) (Or.inr (own_w hw (i := 134) rfl)) (by decide) (t := .int) (t' := (.object "com/example/hernieuw/hernieuw/estimation/RateEstimates")) (by decide) (by decide))))
  obtain ⟨T254, h254, X254, e254, W254, st254⟩ := putF X250 hx hZ hown (host := "") (Or.inl (own_w hw (i := 135) rfl)) Via.refl e250 f256 f255 (Or.inr ⟨(own_w hw (i := 136) rfl), rfl, hnm⟩) (own_w hw (i := 51) rfl) (ty := .int) (by decide) rfl rfl (g := (mkF m 29 #[rv ub, rv (A 0), rv fh, iv mm] [(.int mm), (.ref ub)])) rfl rfl (D d7_29)
  have O257 := Old0.wr O253 W254 prem5
  have K257 := Keep.wr K253 W254 (Or.inl (List.mem_of_getElem? (i := 0) rfl))
  have N254 := Fr.snoc X254 N250 prem5
  have f254 : Fld Z h254 ub "com/example/hernieuw/hernieuw/crawl/UrlRates" "memory" "I" (.int mm) := Fld.same W254 f256
  refine Go.of (T' := T254) (f' := (mkF m 32 #[rv ub, rv (A 0), rv fh, iv mm] [])) (fun _ k => XS.aloadN X0.here hx rfl (D d7_0) rfl rfl (st218 _ (XS.aloadN X218.here hx rfl (D d7_4) rfl rfl (XS.bipush X218.here hx rfl (D d7_5) (st219 _ (st222 _ (XS.aloadN X222.here hx rfl (D d7_12) rfl rfl (st226 _ (XS.dup X226.here hx rfl (D d7_16) rfl rfl (XS.iconst X226.here hx rfl (D d7_17) (XS.aloadN X226.here hx rfl (D d7_18) rfl rfl (XS.aloadN X226.here hx rfl (D d7_19) rfl rfl (XS.iloadN X226.here hx rfl (D d7_20) rfl (st239 _ (st250 _ (XS.aloadN X250.here hx rfl (D d7_27) rfl rfl (XS.iloadN X250.here hx rfl (D d7_28) rfl (st254 _ k)))))))))))))))))) ?_
  exact Go.retV X254 hx hlk hret (D d7_32) (by decide) (by decide) (by rw [e254]; exact ⟨rfl, N254, K257, f254⟩)
def own_max (x : Int32) : Int32 := if (1 : Int32) < x then x else 1
def own_obs (m : Int32) : Int32 := if m = 2147483647 then m else m + 1
def own_min (x : Int64) : Int64 := if 0 < lcmpW x 2147483647 then 2147483647 else x
theorem own_max1 (x : Int32) : ¬ own_max x < 1 := by
  unfold own_max
  split
  · rename_i h
    rw [Int32.lt_iff_toInt_lt] at h ⊢
    omega
  · decide
theorem own_end (m : Int32) (h : ¬ m < 1) : lcmpW (own_obs m).toInt64 (own_min (m.toInt64 + 1)) = 0 := by
  have r := rng32 m
  have e1 : ((1 : Int32)).toInt = 1 := by decide
  have e2 : ((1 : Int64)).toInt = 1 := by decide
  have e3 : ((2147483647 : Int64)).toInt = 2147483647 := by decide
  have e4 : ((2147483647 : Int32)).toInt = 2147483647 := by decide
  have k1 := c_iadd m 1
  have k2 := c_ladd m.toInt64 1
  have k3 := c_i2l m
  have k4 := c_i2l (m + 1)
  have r1 := rng32 (m + 1)
  have r2 := rng64 (m.toInt64 + 1)
  rw [Int32.lt_iff_toInt_lt] at h
  rw [e1] at k1 h
  rw [e2] at k2
  rw [lw_eq]
  unfold own_obs own_min
  rw [← Int64.toInt_inj]
  simp only [lw_gt, Int64.lt_iff_toInt_lt, ← Int32.toInt_inj, e3, e4]
  split <;> split <;> omega
theorem d0_0 : decode jdk_29_method_65_code 0 = .ok (.iload_n 0, 1) := by decide +kernel
theorem d0_1 : decode jdk_29_method_65_code 1 = .ok (.iload_n 1, 1) := by decide +kernel
theorem d0_2 : decode jdk_29_method_65_code 2 = .ok (.if_icmp .lt 7, 3) := by decide +kernel
theorem d0_9 : decode jdk_29_method_65_code 9 = .ok (.iload_n 1, 1) := by decide +kernel
theorem d0_10 : decode jdk_29_method_65_code 10 = .ok (.ireturn, 1) := by decide +kernel
theorem d0_5 : decode jdk_29_method_65_code 5 = .ok (.iload_n 0, 1) := by decide +kernel
theorem d0_6 : decode jdk_29_method_65_code 6 = .ok (.goto 4, 3) := by decide +kernel
abbrev own_m38 : MethodName := (⟨"java/lang/Math", "max", "(II)I"⟩ : MethodName)
theorem ef_rm_max (m : MethodId) (x : Int32) : entryFrame m #[(.int (1 : Int32)), (.int x)] 2 = mkF m 0 #[iv (1 : Int32), iv x] [] := by first | (simp [entryFrame, mkF, argsToLocals, Value.category]; done) | rfl
set_option maxRecDepth 65536 in
set_option maxHeartbeats 40000000 in
theorem rm_max {l : Launch} {Z : State} {a0 : Array Value} {A : Nat → Addr} {KC : Nat → Cell} {IC : Nat → Int32} {VC : Nat → Value} (hw : ∀ d ∈ tables_1, d.before a0 Z = true) (G : own_Ctx Z A KC IC VC) (x : Int32)  (h0 : Heap) (O0 : Ext Z.heap h0)  :
    Ok l Z own_m38 jdk_29_method_65_code 2 (some .int) ({ frames := 0, cells := 0, slots := 0, locals := 0 } : Room) #[(.int (1 : Int32)), (.int x)] h0
      (fun v h L => v = some (.int (own_max x)) ∧ (h = h0) ∧ (L = [])) := by
  refine Ok.mk pn_java_lang_Math_max__II_I ?_
  intro p e s m below meth c T0 hx hby hml hown hnm hret hlk hZ e0 X0
  refine Go.cast (ef_rm_max m x) ?_
  have D := @hb _ _ hby
  have N0 := Fr.nil Z.heap.size
  have K0 : Keep h0 h0 [] := Keep.refl _ _
  refine Go.of (T' := T0) (f' := (mkF m 2 #[iv 1, iv x] [(.int x), (.int 1)])) (fun _ k => XS.iloadN X0.here hx rfl (D d0_0) rfl (XS.iloadN X0.here hx rfl (D d0_1) rfl k)) ?_
  by_cases hc258 : (1 : Int32) < x
  · skip
    refine Go.of (T' := T0) (f' := (mkF m 10 #[iv 1, iv x] [(.int x)])) (fun _ k => XS.icmpYes X0.here hx rfl (pc0 := 2) (pc' := 9) rfl (D d0_2) rfl (tlt hc258).1 (by decide) (by decide) (XS.iloadN X0.here hx rfl (D d0_9) rfl k)) ?_
    exact Go.retI X0 hx hlk hret (D d0_10) (by decide) (by decide) (by rw [e0]; exact ⟨by rw [own_max, if_pos hc258], rfl, by simp⟩)
  · skip
    refine Go.of (T' := T0) (f' := (mkF m 10 #[iv 1, iv x] [(.int 1)])) (fun _ k => XS.icmpNo X0.here hx rfl (D d0_2) rfl (flt hc258).1 (XS.iloadN X0.here hx rfl (D d0_5) rfl (XS.goto X0.here hx rfl (pc0 := 6) (pc' := 10) rfl (D d0_6) (by decide) (by decide) k))) ?_
    exact Go.retI X0 hx hlk hret (D d0_10) (by decide) (by decide) (by rw [e0]; exact ⟨by rw [own_max, if_neg hc258], rfl, by simp⟩)
theorem d16_0 : decode jdk_29_method_70_code 0 = .ok (.lload_n 0, 1) := by decide +kernel
theorem d16_1 : decode jdk_29_method_70_code 1 = .ok (.lload_n 2, 1) := by decide +kernel
theorem d16_2 : decode jdk_29_method_70_code 2 = .ok (.lcmp, 1) := by decide +kernel
theorem d16_3 : decode jdk_29_method_70_code 3 = .ok (.ifCond .gt 7, 3) := by decide +kernel
theorem d16_10 : decode jdk_29_method_70_code 10 = .ok (.lload_n 2, 1) := by decide +kernel
theorem d16_11 : decode jdk_29_method_70_code 11 = .ok (.lreturn, 1) := by decide +kernel
theorem d16_6 : decode jdk_29_method_70_code 6 = .ok (.lload_n 0, 1) := by decide +kernel
theorem d16_7 : decode jdk_29_method_70_code 7 = .ok (.goto 4, 3) := by decide +kernel
abbrev own_m39 : MethodName := (⟨"java/lang/Math", "min", "(JJ)J"⟩ : MethodName)
theorem ef_rm_min (m : MethodId) (x : Int64) : entryFrame m #[(.long x), (.long (2147483647 : Int64))] 4 = mkF m 0 #[.val (.long x), .second, .val (.long (2147483647 : Int64)), .second] [] := by first | (simp [entryFrame, mkF, argsToLocals, Value.category]; done) | rfl
set_option maxRecDepth 65536 in
set_option maxHeartbeats 40000000 in
theorem rm_min {l : Launch} {Z : State} {a0 : Array Value} {A : Nat → Addr} {KC : Nat → Cell} {IC : Nat → Int32} {VC : Nat → Value} (hw : ∀ d ∈ tables_1, d.before a0 Z = true) (G : own_Ctx Z A KC IC VC) (x : Int64)  (h0 : Heap) (O0 : Ext Z.heap h0)  :
    Ok l Z own_m39 jdk_29_method_70_code 4 (some .long) ({ frames := 0, cells := 0, slots := 0, locals := 0 } : Room) #[(.long x), (.long (2147483647 : Int64))] h0
      (fun v h L => v = some (.long (own_min x)) ∧ (h = h0) ∧ (L = [])) := by
  refine Ok.mk pn_java_lang_Math_min__JJ_J ?_
  intro p e s m below meth c T0 hx hby hml hown hnm hret hlk hZ e0 X0
  refine Go.cast (ef_rm_min m x) ?_
  have D := @hb _ _ hby
  have N0 := Fr.nil Z.heap.size
  have K0 : Keep h0 h0 [] := Keep.refl _ _
  refine Go.of (T' := T0) (f' := (mkF m 3 #[.val (.long x), .second, .val (.long (2147483647 : Int64)), .second] [(.int (lcmpW x (2147483647 : Int64)))])) (fun _ k => XS.lloadN X0.here hx rfl (D d16_0) rfl (XS.lloadN X0.here hx rfl (D d16_1) rfl (XS.lcmp X0.here hx rfl (D d16_2) rfl k))) ?_
  by_cases hc259 : (0 : Int32) < (lcmpW x (2147483647 : Int64))
  · skip
    refine Go.of (T' := T0) (f' := (mkF m 11 #[.val (.long x), .second, .val (.long (2147483647 : Int64)), .second] [(.long (2147483647 : Int64))])) (fun _ k => XS.ifYes X0.here hx rfl (pc0 := 3) (pc' := 10) rfl (D d16_3) rfl ((if0 _ _).trans (tlt hc259).2.2.1) (by decide) (by decide) (XS.lloadN X0.here hx rfl (D d16_10) rfl k)) ?_
    exact Go.retJ X0 hx hlk hret (D d16_11) (by decide) (by decide) (by rw [e0]; exact ⟨by rw [own_min, if_pos hc259], rfl, by simp⟩)
  · skip
    refine Go.of (T' := T0) (f' := (mkF m 11 #[.val (.long x), .second, .val (.long (2147483647 : Int64)), .second] [(.long x)])) (fun _ k => XS.ifNo X0.here hx rfl (D d16_3) rfl ((if0 _ _).trans (flt hc259).2.2.1) (XS.lloadN X0.here hx rfl (D d16_6) rfl (XS.goto X0.here hx rfl (pc0 := 7) (pc' := 11) rfl (D d16_7) (by decide) (by decide) k))) ?_
    exact Go.retJ X0 hx hlk hret (D d16_11) (by decide) (by decide) (by rw [e0]; exact ⟨by rw [own_min, if_neg hc259], rfl, by simp⟩)
theorem d17_0 : decode prog_50_method_2_code 0 = .ok (.aload_n 0, 1) := by decide +kernel
theorem d17_1 : decode prog_50_method_2_code 1 = .ok (.getfield 24, 3) := by decide +kernel
theorem d17_4 : decode prog_50_method_2_code 4 = .ok (.ldc 30, 2) := by decide +kernel
theorem d17_6 : decode prog_50_method_2_code 6 = .ok (.if_icmp .ne 10, 3) := by decide +kernel
theorem d17_9 : decode prog_50_method_2_code 9 = .ok (.aload_n 0, 1) := by decide +kernel
theorem d17_10 : decode prog_50_method_2_code 10 = .ok (.getfield 24, 3) := by decide +kernel
theorem d17_13 : decode prog_50_method_2_code 13 = .ok (.goto 9, 3) := by decide +kernel
theorem d17_22 : decode prog_50_method_2_code 22 = .ok (.ireturn, 1) := by decide +kernel
theorem d17_16 : decode prog_50_method_2_code 16 = .ok (.aload_n 0, 1) := by decide +kernel
theorem d17_17 : decode prog_50_method_2_code 17 = .ok (.getfield 24, 3) := by decide +kernel
theorem d17_20 : decode prog_50_method_2_code 20 = .ok (.iconst 1, 1) := by decide +kernel
theorem d17_21 : decode prog_50_method_2_code 21 = .ok (.iadd, 1) := by decide +kernel
abbrev own_m40 : MethodName := (⟨"com/example/hernieuw/hernieuw/crawl/UrlRates", "observationsUsed", "()I"⟩ : MethodName)
theorem ef_rm_obs (m : MethodId) (ub : Addr) : entryFrame m #[(.ref ub)] 1 = mkF m 0 #[rv ub] [] := by first | (simp [entryFrame, mkF, argsToLocals, Value.category]; done) | rfl
theorem pn41 : plainFor (⟨"com/example/hernieuw/hernieuw/crawl/UrlRates", "observationsUsed", "()I"⟩ : MethodName) = true := by first | exact plainFor_of_name (by first | (simp [plainName, overriddenIn]; done) | decide +kernel) | decide +kernel
set_option maxRecDepth 65536 in
set_option maxHeartbeats 40000000 in
theorem rm_obs {l : Launch} {Z : State} {a0 : Array Value} {A : Nat → Addr} {KC : Nat → Cell} {IC : Nat → Int32} {VC : Nat → Value} (hw : ∀ d ∈ tables_1, d.before a0 Z = true) (G : own_Ctx Z A KC IC VC) (ub : Addr) (mm : Int32) (h0 : Heap) (O0 : Ext Z.heap h0) (prem0 : Fld Z h0 ub "com/example/hernieuw/hernieuw/crawl/UrlRates" "memory" "I" (.int mm)) :
    Ok l Z own_m40 prog_50_method_2_code 1 (some .int) ({ frames := 0, cells := 0, slots := 0, locals := 0 } : Room) #[(.ref ub)] h0
      (fun v h L => v = some (.int (own_obs mm)) ∧ (h = h0) ∧ (L = [])) := by
  refine Ok.mk pn41 ?_
  intro p e s m below meth c T0 hx hby hml hown hnm hret hlk hZ e0 X0
  refine Go.cast (ef_rm_obs m ub) ?_
  have D := @hb _ _ hby
  have N0 := Fr.nil Z.heap.size
  have K0 : Keep h0 h0 [] := Keep.refl _ _
  obtain ⟨T260, X260, e260, st260⟩ := getF X0 hx hZ hown (host := "") (Or.inl (own_w hw (i := 135) rfl)) Via.refl e0 prem0 (g := (mkF m 1 #[rv ub] [(.ref ub)])) rfl rfl (D d17_1)
  refine Go.of (T' := T260) (f' := (mkF m 6 #[rv ub] [(.int 2147483647), (.int mm)])) (fun _ k => XS.aloadN X0.here hx rfl (D d17_0) rfl rfl (st260 _ (X260.ldcInt hx hown (mvT hZ (own_w hw (i := 146) rfl)) (g := (mkF m 4 #[rv ub] [(.int mm)])) rfl (D d17_4) _ k))) ?_
  by_cases hc261 : mm = (2147483647 : Int32)
  · skip
    obtain ⟨T262, X262, e262, st262⟩ := getF X260 hx hZ hown (host := "") (Or.inl (own_w hw (i := 135) rfl)) Via.refl e260 prem0 (g := (mkF m 10 #[rv ub] [(.ref ub)])) rfl rfl (D d17_10)
    refine Go.of (T' := T262) (f' := (mkF m 22 #[rv ub] [(.int mm)])) (fun _ k => XS.icmpNo X260.here hx rfl (D d17_6) rfl (teq hc261).2 (XS.aloadN X260.here hx rfl (D d17_9) rfl rfl (st262 _ (XS.goto X262.here hx rfl (pc0 := 13) (pc' := 22) rfl (D d17_13) (by decide) (by decide) k)))) ?_
    exact Go.retI X262 hx hlk hret (D d17_22) (by decide) (by decide) (by rw [e262]; exact ⟨by rw [own_obs, if_pos hc261], rfl, by simp⟩)
  · skip
    obtain ⟨T263, X263, e263, st263⟩ := getF X260 hx hZ hown (host := "") (Or.inl (own_w hw (i := 135) rfl)) Via.refl e260 prem0 (g := (mkF m 17 #[rv ub] [(.ref ub)])) rfl rfl (D d17_17)
    refine Go.of (T' := T263) (f' := (mkF m 22 #[rv ub] [(.int (mm + (1 : Int32)))])) (fun _ k => XS.icmpYes X260.here hx rfl (pc0 := 6) (pc' := 16) rfl (D d17_6) rfl (feq hc261).2 (by decide) (by decide) (XS.aloadN X260.here hx rfl (D d17_16) rfl rfl (st263 _ (XS.iconst X263.here hx rfl (D d17_20) (XS.iadd X263.here hx rfl (D d17_21) rfl k))))) ?_
    exact Go.retI X263 hx hlk hret (D d17_22) (by decide) (by decide) (by rw [e263]; exact ⟨by rw [own_obs, if_neg hc261], rfl, by simp⟩)
theorem pd42 : parseMethodDescriptor "(II)I" = some ⟨[.int, .int], some .int⟩ := by decide +kernel
theorem pd43 : parseMethodDescriptor "()V" = some ⟨[], none⟩ := by decide +kernel
theorem pd44 : parseMethodDescriptor "(DZ)V" = some ⟨[.double, .boolean], none⟩ := by decide +kernel
theorem pd45 : parseMethodDescriptor "(Lcom/example/hernieuw/hernieuw/estimation/Estimator;Lcom/example/hernieuw/hernieuw/estimation/FetchHistory;I)V" = some ⟨[(.object "com/example/hernieuw/hernieuw/estimation/Estimator"), (.object "com/example/hernieuw/hernieuw/estimation/FetchHistory"), .int], none⟩ := by decide +kernel
theorem pd46 : parseMethodDescriptor "(JJ)J" = some ⟨[.long, .long], some .long⟩ := by decide +kernel
theorem ef_rm_law (m : MethodId) (p0 : Int32) : entryFrame m #[(.int p0)] maxLocals = mkF m 0 #[iv p0, .unset, .unset, .unset, .unset, .unset, .unset] [] := by first | (simp [entryFrame, mkF, argsToLocals, Value.category, maxLocals]; done) | rfl
theorem pn47 : plainFor (⟨"com/example/hernieuw/hernieuw/crawl/UrlRatesObservationsUsedPinLaw", "law", "(I)Z"⟩ : MethodName) = true := by first | exact plainFor_of_name (by first | (simp [plainName, overriddenIn]; done) | decide +kernel) | decide +kernel
set_option maxRecDepth 65536 in
set_option maxHeartbeats 40000000 in
theorem rm_law {l : Launch} {Z : State} {a0 : Array Value} {A : Nat → Addr} {KC : Nat → Cell} {IC : Nat → Int32} {VC : Nat → Value} (hw : ∀ d ∈ tables_1, d.before a0 Z = true) (G : own_Ctx Z A KC IC VC) (p0 : Int32)  (h0 : Heap) (O0 : Ext Z.heap h0)  :
    OkS l Z own_EL x code maxLocals ret room_1 #[(.int p0)] h0
      (fun v h L => v = some (.int (1 : Int32)) ∧ (Fr Z.heap.size L)) := by
  refine OkS.mk pn47 ?_
  intro p e s m below meth c T0 hx hby hml hown hnm hret hlk hZ e0 C0 hS X0
  have hk := Nat.zero_le h0.size
  have hEL := own_EW hw
  have hml : c.maxLocals = 7 := hml
  have hown : s.vm.findClass "com/example/hernieuw/hernieuw/crawl/UrlRatesObservationsUsedPinLaw" = some m.cls := hown
  refine GoS.cast (ef_rm_law m p0) ?_
  obtain ⟨S_NAIVE, -⟩ := id G
  have D := @hb _ _ hby
  have N0 := Fr.nil Z.heap.size
  have K0 : Keep h0 h0 [] := Keep.refl _ _
  obtain ⟨T264, v264, L264, X264, q264, st264⟩ := callSt X0 hx hZ (y := own_m38) hown (own_w hw (i := 1) rfl) (own_w hw (i := 2) rfl) (own_w hw (i := 3) rfl) (own_w hw (i := 4) rfl) (by decide) (rm_max hw G ((p0 &&& (2147483647 : Int32)))  h0 O0 ) e0 (W := 0) (by decide) (by decide) (by decide) (by decide) (g := (mkF m 5 #[iv p0, .unset, .unset, .unset, .unset, .unset, .unset] [(.int (p0 &&& (2147483647 : Int32))), (.int 1)])) rfl (by rw [hml]; rfl) (argsL := [(.int 1), (.int (p0 &&& (2147483647 : Int32)))]) (rest := []) (lenOf pd42 rfl) rfl rfl (Nat.le_of_eq rfl) (D at_5)
  obtain ⟨rfl, e264, rfl⟩ := q264
  have N264 := Fr.app N0 (Fr.nil _)
  refine GoS.of (T' := T264) (f' := (mkF m 8 #[iv p0, .unset, .unset, .unset, .unset, .unset, .unset] [(.int (own_max (p0 &&& (2147483647 : Int32))))])) (fun _ k => XS.iconst X0.here hx rfl (D at_0) (XS.iloadN X0.here hx rfl (D at_1) rfl (X0.ldcInt hx hown (mvT hZ (own_w hw (i := 0) rfl)) (g := (mkF m 2 #[iv p0, .unset, .unset, .unset, .unset, .unset, .unset] [(.int p0), (.int 1)])) rfl (D at_2) _ (XS.iand X0.here hx rfl (D at_4) rfl (st264 _ k))))) ?_
  generalize hmm : ((own_max (p0 &&& (2147483647 : Int32))) : Int32) = mm
  obtain ⟨T265, h265, b265, q265, X265, e265, E265, A265, D265, st265⟩ := newOb X264 hx hZ hown (own_w hw (i := 5) rfl) (own_w hw (i := 6) rfl) (own_w hw (i := 7) rfl) e264 (g := (mkF m 9 #[iv p0, iv mm, .unset, .unset, .unset, .unset, .unset] [])) rfl (D at_9) (by decide) (by decide)
  have O267 := Old0.ext O0 E265
  have C266 := CHr.trans C0 (CHr.ext E265 C0.1)
  have hk := Nat.le_trans hk E265.1
  have g_b265 : Z.heap.size ≤ b265 := q265 ▸ O0.1
  have f268 : Fld Z h265 b265 "com/example/hernieuw/hernieuw/estimation/FetchHistory" "shortestInterval" "D" (.double (0 : UInt64)) := D265 (Or.inl (own_w hw (i := 16) rfl)) (ty := .double) (by decide)
  have f269 : Fld Z h265 b265 "com/example/hernieuw/hernieuw/estimation/FetchHistory" "changedIntervals" "[D" .null := D265 (Or.inl (own_w hw (i := 19) rfl)) (ty := (.array .double)) (by decide)
  have f270 : Fld Z h265 b265 "com/example/hernieuw/hernieuw/estimation/FetchHistory" "days" "D" (.double (0 : UInt64)) := D265 (Or.inl (own_w hw (i := 42) rfl)) (ty := .double) (by decide)
  have f271 : Fld Z h265 b265 "com/example/hernieuw/hernieuw/estimation/FetchHistory" "fetches" "I" (.int 0) := D265 (Or.inl (own_w hw (i := 44) rfl)) (ty := .int) (by decide)
  have f272 : Fld Z h265 b265 "com/example/hernieuw/hernieuw/estimation/FetchHistory" "changes" "I" (.int 0) := D265 (Or.inl (own_w hw (i := 49) rfl)) (ty := .int) (by decide)
  have f273 : Fld Z h265 b265 "com/example/hernieuw/hernieuw/estimation/FetchHistory" "unchangedDays" "D" (.double (0 : UInt64)) := D265 (Or.inl (own_w hw (i := 108) rfl)) (ty := .double) (by decide)
  obtain ⟨T274, v274, L274, X274, q274, st274⟩ := callNew X265 hx hZ (y := own_m0) rfl hown (own_w hw (i := 8) rfl) (own_w hw (i := 9) rfl) (own_w hw (i := 7) rfl) (own_w hw (i := 10) rfl) (by decide) (rm_hinit hw G b265  h265 O267 A265 f271 f270 f273 f268 f269 f272 g_b265) e265 (W := 1) (by decide) (by decide) (by decide) (by decide) (g := (mkF m 13 #[iv p0, iv mm, .unset, .unset, .unset, .unset, .unset] [(.ref b265), (.ref b265)])) rfl (by rw [hml]; rfl) (a := b265) (argsL := []) (rest := [(.ref b265)]) (lenOf pd43 rfl) rfl rfl (Nat.le_of_eq rfl) (D at_13)
  obtain ⟨ar_274, ka_274, rfl, N274q, K274q, p274_0, p274_1, p274_2, p274_3, p274_4, p274_5, p274_6, p274_7, p274_8⟩ := q274
  have N274 := Fr.app N264 N274q
  have O276 := Old0.keep O267 K274q (allS g_b265 all0)
  have C275 := CHr.trans C266 (CHr.keep K274q (sfS (Safe.exa hZ.alike A265 (by decide) (by decide)) sf0) C266.1)
  have hk := Nat.le_trans hk K274q.1
  have g_ar_274 : Z.heap.size ≤ ar_274 := Nat.le_trans O267.1 p274_0
  have ne_b265_ar_274 : b265 ≠ ar_274 := Nat.ne_of_lt (Nat.lt_of_lt_of_le A265.lt p274_0)
  have f278 : Exa Z T274.heap b265 "com/example/hernieuw/hernieuw/estimation/FetchHistory" := (Exa.keep A265 K274q)
  refine GoS.of (T' := T274) (f' := (mkF m 20 #[iv p0, iv mm, rv b265, .unset, .unset, .unset, .unset] [(.int 1), (.double (4607182418800017408 : UInt64)), (.ref b265)])) (fun _ k => XS.istoreN X264.here hx rfl (D at_8) rfl (l' := #[iv p0, iv mm, .unset, .unset, .unset, .unset, .unset]) rfl (st265 _ (XS.dup X265.here hx rfl (D at_12) rfl rfl (st274 _ (XS.astoreN X274.here hx rfl (D at_16) rfl rfl (l' := #[iv p0, iv mm, rv b265, .unset, .unset, .unset, .unset]) rfl (XS.aloadN X274.here hx rfl (D at_17) rfl rfl (XS.dconst1 X274.here hx rfl (D at_18) (v := (4607182418800017408 : UInt64)) (by decide +kernel) (XS.iconst X274.here hx rfl (D at_19) k)))))))) ?_
  obtain ⟨T277, v277, L277, X277, q277, hS, hg277, hZ, hown, Cq277, st277⟩ := callViS X274 hx hZ (y := own_m10) (z := own_m10) hS hk hEL C275.1 hown (own_w hw (i := 20) rfl) (own_w hw (i := 21) rfl) (notFace_of_selects (args := #[]) (mvT hZ (own_w hw (i := 23) rfl))) (own_w hw (i := 23) rfl) (own_w hw (i := 22) rfl) (own_w hw (i := 24) rfl) (own_w hw (i := 7) rfl) (by decide) (rm_add hw G b265 ar_274 ka_274 T274.heap O276 f278 p274_1 p274_2 p274_3 p274_4 p274_5 p274_6 p274_7 p274_8 g_b265 g_ar_274 ne_b265_ar_274) rfl (W := 0) (by decide) (by decide) (by decide) (by decide) f278 (g := (mkF m 20 #[iv p0, iv mm, rv b265, .unset, .unset, .unset, .unset] [(.int 1), (.double (4607182418800017408 : UInt64)), (.ref b265)])) rfl (by rw [hml]; rfl) (argsL := [(.double (4607182418800017408 : UInt64)), (.int 1)]) (rest := []) (lenOf pd44 rfl) rfl rfl (Nat.le_of_eq rfl) (D at_20)
  obtain ⟨rfl, N277q, K277q, p277_0, p277_1, p277_2, p277_3, p277_4, p277_5, p277_6⟩ := q277
  have N277 := Fr.app N274 N277q
  have O279 := Old0.keep O276 K277q (allS g_b265 (allS g_ar_274 all0))
  have C277 := CHr.trans C275 Cq277
  have hk := Nat.le_refl T277.heap.size
  have f281 : Exa Z T277.heap b265 "com/example/hernieuw/hernieuw/estimation/FetchHistory" := (Exa.keep f278 K277q)
  have f282 : Exa Z T277.heap ar_274 "[D" := (Exa.keep p274_8 K277q)
  obtain ⟨T280, h280, b280, q280, X280, e280, E280, A280, D280, st280⟩ := newOb X277 hx hZ hown (own_w hw (i := 50) rfl) (own_w hw (i := 51) rfl) (own_w hw (i := 52) rfl) rfl (g := (mkF m 23 #[iv p0, iv mm, rv b265, .unset, .unset, .unset, .unset] [])) rfl (D at_23) (by decide) (by decide)
  have O284 := Old0.ext O279 E280
  have C283 := CHr.trans C277 (CHr.ext E280 C277.1)
  have hk := Nat.le_trans hk E280.1
  have g_b280 : Z.heap.size ≤ b280 := q280 ▸ O279.1
  have ne_b265_b280 : b265 ≠ b280 := q280 ▸ Nat.ne_of_lt f281.lt
  have ne_ar_274_b280 : ar_274 ≠ b280 := q280 ▸ Nat.ne_of_lt f282.lt
  have f285 : Fld Z h280 b280 "com/example/hernieuw/hernieuw/crawl/UrlRates" "lastSeen" "[J" .null := D280 (Or.inl (own_w hw (i := 62) rfl)) (ty := (.array .long)) (by decide)
  have f286 : Fld Z h280 b280 "com/example/hernieuw/hernieuw/crawl/UrlRates" "estimates" "Lcom/example/hernieuw/hernieuw/estimation/RateEstimates;" .null := D280 (Or.inr (own_w hw (i := 134) rfl)) (ty := (.object "com/example/hernieuw/hernieuw/estimation/RateEstimates")) (by decide)
  have f287 : Fld Z h280 b280 "com/example/hernieuw/hernieuw/crawl/UrlRates" "memory" "I" (.int 0) := D280 (Or.inr (own_w hw (i := 136) rfl)) (ty := .int) (by decide)
  obtain ⟨T288, X288, e288, st288⟩ := getS2 X280 hx hZ hown (host := "") (Or.inl (own_w hw (i := 53) rfl)) Via.refl e280 (Sta.ext O284 S_NAIVE) (g := (mkF m 27 #[iv p0, iv mm, rv b265, .unset, .unset, .unset, .unset] [(.ref b280), (.ref b280)])) rfl (D at_27)
  have f290 : Exa Z h280 b265 "com/example/hernieuw/hernieuw/estimation/FetchHistory" := (Exa.ext E280 f281)
  have f291 : Fld Z h280 b265 "com/example/hernieuw/hernieuw/estimation/FetchHistory" "fetches" "I" (.int 1) := (Fld.ext E280 p277_0)
  have f292 : Fld Z h280 b265 "com/example/hernieuw/hernieuw/estimation/FetchHistory" "days" "D" (.double (4607182418800017408 : UInt64)) := (Fld.ext E280 p277_1)
  have f293 : Fld Z h280 b265 "com/example/hernieuw/hernieuw/estimation/FetchHistory" "unchangedDays" "D" (.double (0 : UInt64)) := (Fld.ext E280 p277_2)
  have f294 : Fld Z h280 b265 "com/example/hernieuw/hernieuw/estimation/FetchHistory" "shortestInterval" "D" (.double (4607182418800017408 : UInt64)) := (Fld.ext E280 p277_3)
  have f295 : Fld Z h280 b265 "com/example/hernieuw/hernieuw/estimation/FetchHistory" "changedIntervals" "[D" (.ref ar_274) := (Fld.ext E280 p277_4)
  have f296 : Fld Z h280 b265 "com/example/hernieuw/hernieuw/estimation/FetchHistory" "changes" "I" (.int 1) := (Fld.ext E280 p277_5)
  have f297 : Arv Z h280 ar_274 ka_274 .double (4 : Int32) [(.double (4607182418800017408 : UInt64)), (.double (0 : UInt64)), (.double (0 : UInt64)), (.double (0 : UInt64))] (.double (0 : UInt64)) := (Arv.ext p277_6 E280)
  have f298 : Exa Z h280 ar_274 "[D" := (Exa.ext E280 f282)
  obtain ⟨T289, v289, L289, X289, q289, st289⟩ := callNew X288 hx hZ (y := own_m36) rfl hown (own_w hw (i := 56) rfl) (own_w hw (i := 57) rfl) (own_w hw (i := 52) rfl) (own_w hw (i := 58) rfl) (by decide) (rm_urinit hw G b280 b265 mm ar_274 ka_274 h280 O284 (hmm ▸ own_max1 _) A280 f285 f286 f287 g_b280 f290 f291 f292 f293 f294 f295 f296 f297 f298 (Ne.symm ne_b265_b280) (Ne.symm ne_ar_274_b280)) e288 (W := 1) (by decide) (by decide) (by decide) (by decide) (g := (mkF m 32 #[iv p0, iv mm, rv b265, .unset, .unset, .unset, .unset] [(.int mm), (.ref b265), (.ref (A 0)), (.ref b280), (.ref b280)])) rfl (by rw [hml]; rfl) (a := b280) (argsL := [(.ref (A 0)), (.ref b265), (.int mm)]) (rest := [(.ref b280)]) (lenOf pd45 rfl) rfl rfl (Nat.le_of_eq rfl) (D at_32)
  obtain ⟨rfl, N289q, K289q, p289_0⟩ := q289
  have N289 := Fr.app N277 N289q
  have O300 := Old0.keep O284 K289q (allS g_b280 all0)
  have C299 := CHr.trans C283 (CHr.keep K289q (sfS (Safe.exa hZ.alike A280 (by decide) (by decide)) sf0) C283.1)
  have hk := Nat.le_trans hk K289q.1
  obtain ⟨T301, v301, L301, X301, q301, st301⟩ := callSt X289 hx hZ (y := own_m39) hown (own_w hw (i := 138) rfl) (own_w hw (i := 139) rfl) (own_w hw (i := 3) rfl) (own_w hw (i := 140) rfl) (by decide) (rm_min hw G (((mm.toInt64) + (1 : Int64)))  T289.heap O300 ) rfl (W := 0) (by decide) (by decide) (by decide) (by decide) (g := (mkF m 43 #[iv p0, iv mm, rv b265, rv b280, .unset, .unset, .unset] [(.long (2147483647 : Int64)), (.long ((mm.toInt64) + (1 : Int64)))])) rfl (by rw [hml]; rfl) (argsL := [(.long ((mm.toInt64) + (1 : Int64))), (.long (2147483647 : Int64))]) (rest := []) (lenOf pd46 rfl) rfl rfl (Nat.le_of_eq rfl) (D at_43)
  obtain ⟨rfl, e301, rfl⟩ := q301
  have N301 := Fr.app N289 (Fr.nil _)
  have f303 : Exa Z T289.heap b280 "com/example/hernieuw/hernieuw/crawl/UrlRates" := (Exa.keep A280 K289q)
  obtain ⟨T302, v302, L302, X302, q302, st302⟩ := callVi X301 hx hZ (y := own_m40) (z := own_m40) hown (own_w hw (i := 141) rfl) (own_w hw (i := 142) rfl) (notFace_of_selects (args := #[]) (mvT hZ (own_w hw (i := 144) rfl))) (own_w hw (i := 144) rfl) (own_w hw (i := 143) rfl) (own_w hw (i := 145) rfl) (own_w hw (i := 52) rfl) (by decide) (rm_obs hw G b280 mm T289.heap O300 p289_0) e301 (W := 0) (by decide) (by decide) (by decide) (by decide) f303 (g := (mkF m 49 #[iv p0, iv mm, rv b265, rv b280, .val (.long (own_min ((mm.toInt64) + (1 : Int64)))), .second, .unset] [(.ref b280)])) rfl (by rw [hml]; rfl) (argsL := []) (rest := []) (lenOf pd18 rfl) rfl rfl (Nat.le_of_eq rfl) (D at_49)
  obtain ⟨rfl, e302, rfl⟩ := q302
  have N302 := Fr.app N301 (Fr.nil _)
  have hc304 : (lcmpW ((own_obs mm).toInt64) (own_min ((mm.toInt64) + (1 : Int64)))) = (0 : Int32) := own_end mm (hmm ▸ own_max1 _)
  refine GoS.of (T' := T302) (f' := (mkF m 64 #[iv p0, iv mm, rv b265, rv b280, .val (.long (own_min ((mm.toInt64) + (1 : Int64)))), .second, iv (own_obs mm)] [(.int 1)])) (fun _ k => st277 _ (st280 _ (XS.dup X280.here hx rfl (D at_26) rfl rfl (st288 _ (XS.aloadN X288.here hx rfl (D at_30) rfl rfl (XS.iloadN X288.here hx rfl (D at_31) rfl (st289 _ (XS.astoreN X289.here hx rfl (D at_35) rfl rfl (l' := #[iv p0, iv mm, rv b265, rv b280, .unset, .unset, .unset]) rfl (XS.iloadN X289.here hx rfl (D at_36) rfl (XS.i2l X289.here hx rfl (D at_37) rfl (XS.lconst X289.here hx rfl (D at_38) (XS.ladd X289.here hx rfl (D at_39) rfl (X289.ldc2Long hx hown (mvT hZ (own_w hw (i := 137) rfl)) (g := (mkF m 40 #[iv p0, iv mm, rv b265, rv b280, .unset, .unset, .unset] [(.long ((mm.toInt64) + (1 : Int64)))])) rfl (D at_40) _ (st301 _ (XS.lstore X301.here hx rfl (D at_46) rfl (l' := #[iv p0, iv mm, rv b265, rv b280, .val (.long (own_min ((mm.toInt64) + (1 : Int64)))), .second, .unset]) rfl (XS.aloadN X301.here hx rfl (D at_48) rfl rfl (st302 _ (XS.istore X302.here hx rfl (D at_52) rfl (l' := #[iv p0, iv mm, rv b265, rv b280, .val (.long (own_min ((mm.toInt64) + (1 : Int64)))), .second, iv (own_obs mm)]) rfl (XS.iload X302.here hx rfl (D at_54) rfl (XS.i2l X302.here hx rfl (D at_56) rfl (XS.lload X302.here hx rfl (D at_57) rfl (XS.lcmp X302.here hx rfl (D at_59) rfl (XS.ifNo X302.here hx rfl (D at_60) rfl ((if0 _ _).trans (teq hc304).2) (XS.iconst X302.here hx rfl (D at_63) k)))))))))))))))))))))))) ?_
  refine GoS.of (T' := T302) (f' := (mkF m 68 #[iv p0, iv mm, rv b265, rv b280, .val (.long (own_min ((mm.toInt64) + (1 : Int64)))), .second, iv (own_obs mm)] [(.int 1)])) (fun _ k => XS.goto X302.here hx rfl (pc0 := 64) (pc' := 68) rfl (D at_64) (by decide) (by decide) k) ?_
  exact GoS.retB X302 hx hlk hS hk hZ hEL C299 e302 hret (by simp) (D at_68) (by decide) (by decide) (z' := (1 : Int32)) rfl ⟨rfl, N302⟩
set_option maxRecDepth 65536 in
set_option maxHeartbeats 40000000 in
theorem comes_1 {Post : Tables → Env → Array Value → State → Outcome → State → Prop} (hpost : ∀ tb e args s v u, (limb_1_1.after args s (.returned v) u = true ∧ limb_1_2.after args s (.returned v) u = true ∧ True) → ReturnedEndW s (.returned v) u (Jvm.fieldLocs frame_1_writes args s ++ Jvm.arrayLocs frame_1_arrays args s ++ Jvm.staticLocs frame_1_statics s) 32 1216 → Post tb e args s (.returned v) u) :
    ArmFor flags0 classFile x code maxLocals ret World_1 tables_1 room_1 Calls_1 rest_1 Pre_1 Post := by
  intro l hfl _ _ p e ha hc hk s m args below hf hA hF happ hP
  obtain ⟨hcalls, hrest, hpre⟩ := hP
  obtain ⟨-, -, -, hnamed, -, -, -, hat⟩ := (Spec.applies_iff hf).mp happ
  obtain ⟨hg, hn⟩ := and_e (Cond.before_iff.mp (show (Jvm.Cond.and given_1 narrow_1).before args s = true from hpre))
  obtain ⟨ga0, gb0⟩ := and_e hg
  obtain ⟨w0, rfl⟩ : ∃ w0 : Value, args = #[w0] := by
    have hs : args.size = 1 := by simpa [Cond.value, given_1] using ga0
    obtain ⟨L⟩ := args
    match L, hs with
    | [w0], _ => exact ⟨w0, rfl⟩
  have hw := fun d (hd : d ∈ tables_1) => atoms_spec (ws := Jvm.Cond.code x code maxLocals ret :: tables_1) hat d (List.mem_cons_of_mem _ hd)
  have hfit : Fit s := fun {y c} hc i hi => by
    obtain ⟨ha, rfl⟩ := Array.getElem?_eq_some_iff.mp hc
    have q := List.all_eq_true.mp ((Array.all_eq_true_iff_forall_mem.mp hF) _ (Array.getElem_mem ha)) i (List.mem_range.mpr hi)
    simpa [Array.getElem?_eq_getElem hi] using q
  obtain ⟨i0, ei0⟩ := is_v gb0
  obtain rfl : w0 = (.int i0) := Option.some.inj ei0
  obtain ⟨s_NAIVE, ev_s_NAIVE⟩ := exa_v hn
  have S_NAIVE : Sta s s.heap "com/example/hernieuw/hernieuw/estimation/Estimator" "NAIVE" "Lcom/example/hernieuw/hernieuw/estimation/Estimator;" (.ref s_NAIVE) := Sta.start ev_s_NAIVE (Or.inr ⟨(own_w hw (i := 54) rfl), (own_w hw (i := 55) rfl)⟩)
  have E_s_NAIVE : Exa s s.heap s_NAIVE "com/example/hernieuw/hernieuw/estimation/Estimator$1" := Exa.start ev_s_NAIVE hn
  have hCH : CHv s own_EL s.vm s.heap := fun p hp => nomatch hp
  obtain ⟨n, o, h1, h2, h3, _, L, rfl, ⟨rfl, N⟩, -, hq⟩ := rm_law hw (A := fun n => ([s_NAIVE] : List Addr).getD n 0) (KC := fun _ => { cls := 0, slots := #[], vm := .none }) (IC := fun n => ([] : List Int32).getD n 0) (VC := fun n => ([] : List Value).getD n .null) ⟨S_NAIVE, E_s_NAIVE⟩ i0 s.heap ext_rfl tables_1 p e ha hc hk s m _ below hf ((Spec.applies_iff_loose hf).mp happ).1 ⟨rfl, State.Warmed39.refl s, rfl, hCH⟩ trivial
  refine ⟨n, _, h1, h2, h3, hpost _ _ _ _ _ _ ⟨Cond.after_iff.mpr rfl, Cond.after_iff.mpr (eq_i res_at (Term.int_eval (1)) rfl), trivial⟩ ⟨hq.1, hq.2.1, hq.2.2.1, (hq.2.2.2.sift fun y hy => Or.inr (N y hy)).mono (by decide) (by decide)⟩⟩
theorem main_1_1 : Claimed_1_1 := comes_1 fun _ _ _ _ _ _ h hF => ⟨h.1, hF⟩
theorem main_1_2 : Claimed_1_2 := comes_1 fun _ _ _ _ _ _ h hF => ⟨h.2.1, hF⟩
end Jvm.Pilot.@@N@@
namespace Jvm.Pilot.@@N@@
open Jvm Jvm.ClassFile Sem Op Lib Jvm.Free Jvm.Stand Jvm.Pilot.@@N@@.Jvm.D
/-! MADE BY PROGRAM (witnessworld.py) out of the Statement's table words and the real class files: 29 classes; the members and pool entries that the words name. The judged class is class 1, her method 1. -/
namespace start1
open Jvm.ClassFile
def u (s : String) : CpInfo := .utf8 (stringToUtf16 s)
/-- a pool by its gaps: so many unusable entries, then the entry; so many at the end -/
def gap : Nat → List CpInfo → List CpInfo
  | 0, r => r
  | n + 1, r => .unusable :: gap n r
def poolList (es : List (Nat × CpInfo)) (last : Nat) : List CpInfo := es.foldr (fun e r => gap e.1 (e.2 :: r)) (gap last [])
def pool (es : List (Nat × CpInfo)) (last : Nat) : Array CpInfo := ⟨poolList es last⟩
def fileOf (pool : Array CpInfo) (this : Nat) (attrs : Array Attribute := #[]) (ms : Array MethodInfo := #[]) (fl : Nat := 33) (sup : Nat := 0) (ifs : Array Nat := #[]) (fds : Array FieldInfo := #[]) : ClassFile where
  minorVersion := 0
  majorVersion := 65
  constantPool := pool
  accessFlags := fl
  thisClass := this
  superClass := sup
  interfaces := ifs
  fields := fds
  methods := ms
  attributes := attrs
def plain (name : String) (sup : Option ClassId) : Class where
  name := name
  kind := .ordinary
  loader := none
  accessFlags := 33
  super := sup
  interfaces := #[]
  cf := none
  fields := #[]
  methods := #[]
  instanceTypes := #[]
  staticTypes := #[]
  resolved := #[]
  callSites := []
  init := .initialized
  statics := none
  mirror := none

def pool0 : Array CpInfo := pool [(5, u "<init>"), (0, u "()V"), (1, .class_ 10), (1, u "java/lang/Object"), (85, u "clone"), (0, u "()Ljava/lang/Object;")] 26

def k0c0 : Code := { maxStack := 0, maxLocals := 1, code := object_method_1_code, exceptionTable := #[], attributes := #[] }
def k0m0 : Method := { name := "<init>", desc := "()V", sig := { parameters := [], returnType := none }, accessFlags := 1, code := some k0c0 }
def k0m1 : Method := { name := "clone", desc := "()Ljava/lang/Object;", sig := { parameters := [], returnType := some (.object "java/lang/Object") }, accessFlags := 260, code := none }
/-- java/lang/Object -/
def k0 : Class := { plain "java/lang/Object" none with
  accessFlags := 33
  interfaces := #[]
  cf := some (fileOf pool0 8 #[] #[{ accessFlags := 1, nameIndex := 5, descriptorIndex := 6, attributes := #[] }, { accessFlags := 260, nameIndex := 96, descriptorIndex := 97, attributes := #[] }] 33 0 #[] #[])
  fields := #[]
  methods := #[k0m0, k0m1]
  instanceTypes := #[]
  staticTypes := #[]
  resolved := Array.replicate 124 none
  statics := none }

def pool1 : Array CpInfo := pool [(2, .class_ 4), (0, .nameAndType 5 6), (0, u "java/lang/Object"), (0, u "<init>"), (0, u "()V"), (0, .integer 2147483647), (0, .methodref 9 10), (0, .class_ 11), (0, .nameAndType 12 13), (0, u "java/lang/Math"), (0, u "max"), (0, u "(II)I"), (0, .class_ 15), (0, u "com/example/hernieuw/hernieuw/estimation/FetchHistory"), (0, .methodref 14 3), (0, .methodref 14 18), (0, .nameAndType 19 20), (0, u "add"), (0, u "(DZ)V"), (0, .class_ 22), (0, u "com/example/hernieuw/hernieuw/crawl/UrlRates"), (0, .fieldref 24 25), (0, .class_ 26), (0, .nameAndType 27 28), (0, u "com/example/hernieuw/hernieuw/estimation/Estimator"), (0, u "NAIVE"), (0, u "Lcom/example/hernieuw/hernieuw/estimation/Estimator;"), (0, .methodref 21 30), (0, .nameAndType 5 31), (0, u "(Lcom/example/hernieuw/hernieuw/estimation/Estimator;Lcom/example/hernieuw/hernieuw/estimation/FetchHistory;I)V"), (2, .long 2147483647), (1, .methodref 9 37), (0, .nameAndType 38 39), (0, u "min"), (0, u "(JJ)J"), (0, .methodref 21 41), (0, .nameAndType 42 43), (0, u "observationsUsed"), (0, u "()I"), (0, .class_ 45), (0, u "com/example/hernieuw/hernieuw/crawl/UrlRatesObservationsUsedPinLaw"), (2, u "law"), (0, u "(I)Z")] 3

def k1m0 : Method := { name := "<init>", desc := "()V", sig := { parameters := [], returnType := none }, accessFlags := 2, code := none }
def k1c1 : Code := { maxStack := 5, maxLocals := 7, code := code, exceptionTable := #[], attributes := #[] }
def k1m1 : Method := { name := "law", desc := "(I)Z", sig := { parameters := [.int], returnType := some .boolean }, accessFlags := 9, code := some k1c1 }
/-- com/example/hernieuw/hernieuw/crawl/UrlRatesObservationsUsedPinLaw -/
def k1 : Class := { plain "com/example/hernieuw/hernieuw/crawl/UrlRatesObservationsUsedPinLaw" (some 0) with
  accessFlags := 49
  interfaces := #[]
  cf := some (fileOf pool1 44 #[] #[{ accessFlags := 2, nameIndex := 5, descriptorIndex := 6, attributes := #[] }, { accessFlags := 9, nameIndex := 48, descriptorIndex := 49, attributes := #[] }] 49 2 #[] #[])
  fields := #[]
  methods := #[k1m0, k1m1]
  instanceTypes := #[]
  staticTypes := #[]
  resolved := Array.replicate 53 none
  statics := none }

def pool2 : Array CpInfo := pool [(1, .class_ 2), (0, u "java/lang/Math"), (1, .class_ 6), (1, u "java/lang/Object"), (0, u "<init>"), (0, u "()V"), (43, u "(DD)D"), (45, .class_ 100), (1, u "java/lang/Math$RandomNumberGeneratorHolder"), (20, u "(JJ)J"), (50, u "negativeZeroFloatBits"), (0, u "J"), (2, u "negativeZeroDoubleBits"), (21, u "max"), (2, u "min"), (43, u "$assertionsDisabled"), (0, u "Z"), (88, u "(II)I"), (2, u "twoToTheDoubleScaleDown"), (0, u "D"), (4, u "twoToTheDoubleScaleUp"), (9, u "E"), (3, u "PI"), (2, u "TAU"), (2, u "DEGREES_TO_RADIANS"), (0, u "RADIANS_TO_DEGREES")] 94

def k2m0 : Method := { name := "<init>", desc := "()V", sig := { parameters := [], returnType := none }, accessFlags := 2, code := none }
def k2c1 : Code := { maxStack := 2, maxLocals := 2, code := jdk_29_method_65_code, exceptionTable := #[], attributes := #[] }
def k2m1 : Method := { name := "max", desc := "(II)I", sig := { parameters := [.int, .int], returnType := some .int }, accessFlags := 9, code := some k2c1 }
def k2c2 : Code := { maxStack := 4, maxLocals := 4, code := jdk_29_method_70_code, exceptionTable := #[], attributes := #[] }
def k2m2 : Method := { name := "min", desc := "(JJ)J", sig := { parameters := [.long, .long], returnType := some .long }, accessFlags := 9, code := some k2c2 }
def k2c3 : Code := { maxStack := 4, maxLocals := 4, code := jdk_29_method_72_code, exceptionTable := #[], attributes := #[] }
def k2m3 : Method := { name := "min", desc := "(DD)D", sig := { parameters := [.double, .double], returnType := some .double }, accessFlags := 9, code := some k2c3 }
/-- java/lang/Math -/
def k2 : Class := { plain "java/lang/Math" (some 0) with
  accessFlags := 49
  interfaces := #[]
  cf := some (fileOf pool2 1 #[.nestMembers #[98]] #[{ accessFlags := 2, nameIndex := 7, descriptorIndex := 8, attributes := #[] }, { accessFlags := 9, nameIndex := 198, descriptorIndex := 335, attributes := #[] }, { accessFlags := 9, nameIndex := 201, descriptorIndex := 121, attributes := #[] }, { accessFlags := 9, nameIndex := 201, descriptorIndex := 52, attributes := #[] }] 49 4 #[] #[{ accessFlags := 25, nameIndex := 354, descriptorIndex := 339, attributes := #[] }, { accessFlags := 25, nameIndex := 358, descriptorIndex := 339, attributes := #[] }, { accessFlags := 25, nameIndex := 361, descriptorIndex := 339, attributes := #[] }, { accessFlags := 26, nameIndex := 364, descriptorIndex := 339, attributes := #[] }, { accessFlags := 26, nameIndex := 365, descriptorIndex := 339, attributes := #[] }, { accessFlags := 26, nameIndex := 172, descriptorIndex := 173, attributes := #[] }, { accessFlags := 26, nameIndex := 176, descriptorIndex := 173, attributes := #[] }, { accessFlags := 8, nameIndex := 344, descriptorIndex := 339, attributes := #[] }, { accessFlags := 8, nameIndex := 338, descriptorIndex := 339, attributes := #[] }, { accessFlags := 4120, nameIndex := 245, descriptorIndex := 246, attributes := #[] }])
  fields := #[{ name := "E", type := .double, accessFlags := 25, slot := 0, constantValue := 0 }, { name := "PI", type := .double, accessFlags := 25, slot := 1, constantValue := 0 }, { name := "TAU", type := .double, accessFlags := 25, slot := 2, constantValue := 0 }, { name := "DEGREES_TO_RADIANS", type := .double, accessFlags := 26, slot := 3, constantValue := 0 }, { name := "RADIANS_TO_DEGREES", type := .double, accessFlags := 26, slot := 4, constantValue := 0 }, { name := "negativeZeroFloatBits", type := .long, accessFlags := 26, slot := 5, constantValue := 0 }, { name := "negativeZeroDoubleBits", type := .long, accessFlags := 26, slot := 6, constantValue := 0 }, { name := "twoToTheDoubleScaleUp", type := .double, accessFlags := 8, slot := 7, constantValue := 0 }, { name := "twoToTheDoubleScaleDown", type := .double, accessFlags := 8, slot := 8, constantValue := 0 }, { name := "$assertionsDisabled", type := .boolean, accessFlags := 4120, slot := 9, constantValue := 0 }]
  methods := #[k2m0, k2m1, k2m2, k2m3]
  instanceTypes := #[]
  staticTypes := #[.double, .double, .double, .double, .double, .long, .long, .double, .double, .boolean]
  resolved := Array.replicate 460 none
  statics := none }

def pool3 : Array CpInfo := pool [(1, .methodref 2 3), (0, .class_ 4), (0, .nameAndType 5 6), (0, u "java/lang/Object"), (0, u "<init>"), (0, u "()V"), (2, .double 9218868437227405312), (1, .fieldref 12 13), (0, .class_ 14), (0, .nameAndType 15 16), (0, u "com/example/hernieuw/hernieuw/estimation/FetchHistory"), (0, u "shortestInterval"), (0, u "D"), (0, .fieldref 12 18), (0, .nameAndType 19 20), (0, u "changedIntervals"), (0, u "[D"), (0, .fieldref 12 22), (0, .nameAndType 23 24), (0, u "fetches"), (0, u "I"), (0, .fieldref 12 26), (0, .nameAndType 27 16), (0, u "days"), (0, .fieldref 12 29), (0, .nameAndType 30 16), (0, u "unchangedDays"), (0, .methodref 32 33), (0, .class_ 20), (0, .nameAndType 34 35), (0, u "clone"), (0, u "()Ljava/lang/Object;"), (0, .fieldref 12 37), (0, .nameAndType 38 24), (0, u "changes"), (0, .string 40), (0, u "interval"), (0, .methodref 42 43), (0, .class_ 44), (0, .nameAndType 45 46), (0, u "com/example/hernieuw/hernieuw/numeric/Range"), (0, u "require"), (0, u "(DZLjava/lang/String;)V"), (17, .methodref 65 66), (0, .class_ 67), (0, .nameAndType 68 69), (0, u "java/lang/Math"), (0, u "min"), (0, u "(DD)D"), (8, u "(Lcom/example/hernieuw/hernieuw/estimation/FetchHistory;)V"), (0, u "add"), (0, u "(DZ)V"), (1, u "()I"), (0, u "()D")] 3

def k3c0 : Code := { maxStack := 3, maxLocals := 1, code := prog_56_method_1_code, exceptionTable := #[], attributes := #[] }
def k3m0 : Method := { name := "<init>", desc := "()V", sig := { parameters := [], returnType := none }, accessFlags := 1, code := some k3c0 }
def k3c1 : Code := { maxStack := 3, maxLocals := 2, code := prog_56_method_2_code, exceptionTable := #[], attributes := #[] }
def k3m1 : Method := { name := "<init>", desc := "(Lcom/example/hernieuw/hernieuw/estimation/FetchHistory;)V", sig := { parameters := [(.object "com/example/hernieuw/hernieuw/estimation/FetchHistory")], returnType := none }, accessFlags := 1, code := some k3c1 }
def k3c2 : Code := { maxStack := 8, maxLocals := 4, code := prog_56_method_3_code, exceptionTable := #[], attributes := #[] }
def k3m2 : Method := { name := "add", desc := "(DZ)V", sig := { parameters := [.double, .boolean], returnType := none }, accessFlags := 1, code := some k3c2 }
def k3c3 : Code := { maxStack := 1, maxLocals := 1, code := prog_56_method_4_code, exceptionTable := #[], attributes := #[] }
def k3m3 : Method := { name := "fetches", desc := "()I", sig := { parameters := [], returnType := some .int }, accessFlags := 1, code := some k3c3 }
def k3c4 : Code := { maxStack := 1, maxLocals := 1, code := prog_56_method_5_code, exceptionTable := #[], attributes := #[] }
def k3m4 : Method := { name := "changes", desc := "()I", sig := { parameters := [], returnType := some .int }, accessFlags := 1, code := some k3c4 }
def k3c5 : Code := { maxStack := 2, maxLocals := 1, code := prog_56_method_6_code, exceptionTable := #[], attributes := #[] }
def k3m5 : Method := { name := "days", desc := "()D", sig := { parameters := [], returnType := some .double }, accessFlags := 1, code := some k3c5 }
/-- com/example/hernieuw/hernieuw/estimation/FetchHistory -/
def k3 : Class := { plain "com/example/hernieuw/hernieuw/estimation/FetchHistory" (some 0) with
  accessFlags := 49
  interfaces := #[]
  cf := some (fileOf pool3 12 #[] #[{ accessFlags := 1, nameIndex := 5, descriptorIndex := 6, attributes := #[] }, { accessFlags := 1, nameIndex := 5, descriptorIndex := 78, attributes := #[] }, { accessFlags := 1, nameIndex := 79, descriptorIndex := 80, attributes := #[] }, { accessFlags := 1, nameIndex := 23, descriptorIndex := 82, attributes := #[] }, { accessFlags := 1, nameIndex := 38, descriptorIndex := 82, attributes := #[] }, { accessFlags := 1, nameIndex := 27, descriptorIndex := 83, attributes := #[] }] 49 2 #[] #[{ accessFlags := 2, nameIndex := 23, descriptorIndex := 24, attributes := #[] }, { accessFlags := 2, nameIndex := 27, descriptorIndex := 16, attributes := #[] }, { accessFlags := 2, nameIndex := 30, descriptorIndex := 16, attributes := #[] }, { accessFlags := 2, nameIndex := 15, descriptorIndex := 16, attributes := #[] }, { accessFlags := 2, nameIndex := 19, descriptorIndex := 20, attributes := #[] }, { accessFlags := 2, nameIndex := 38, descriptorIndex := 24, attributes := #[] }])
  fields := #[{ name := "fetches", type := .int, accessFlags := 2, slot := 0, constantValue := 0 }, { name := "days", type := .double, accessFlags := 2, slot := 1, constantValue := 0 }, { name := "unchangedDays", type := .double, accessFlags := 2, slot := 2, constantValue := 0 }, { name := "shortestInterval", type := .double, accessFlags := 2, slot := 3, constantValue := 0 }, { name := "changedIntervals", type := (.array .double), accessFlags := 2, slot := 4, constantValue := 0 }, { name := "changes", type := .int, accessFlags := 2, slot := 5, constantValue := 0 }]
  methods := #[k3m0, k3m1, k3m2, k3m3, k3m4, k3m5]
  instanceTypes := #[.int, .double, .double, .double, (.array .double), .int]
  staticTypes := #[]
  resolved := Array.replicate 87 none
  statics := none }

def pool4 : Array CpInfo := pool [(1, .class_ 2), (0, u "java/io/Serializable"), (0, .class_ 4), (0, u "java/lang/Object")] 2

/-- java/io/Serializable -/
def k4 : Class := { plain "java/io/Serializable" (some 0) with
  accessFlags := 1537
  interfaces := #[]
  cf := some (fileOf pool4 1 #[] #[] 1537 3 #[] #[])
  fields := #[]
  methods := #[]
  instanceTypes := #[]
  staticTypes := #[]
  resolved := Array.replicate 7 none
  statics := none }

def pool5 : Array CpInfo := pool [(1, .class_ 2), (0, u "java/lang/Comparable"), (0, .class_ 4), (0, u "java/lang/Object")] 7

/-- java/lang/Comparable -/
def k5 : Class := { plain "java/lang/Comparable" (some 0) with
  accessFlags := 1537
  interfaces := #[]
  cf := some (fileOf pool5 1 #[] #[] 1537 3 #[] #[])
  fields := #[]
  methods := #[]
  instanceTypes := #[]
  staticTypes := #[]
  resolved := Array.replicate 12 none
  statics := none }

def pool6 : Array CpInfo := pool [(2, .class_ 4), (1, u "java/lang/CharSequence"), (42, .class_ 48), (0, u "java/lang/CharSequence$1CodePointIterator"), (10, .class_ 60), (0, u "java/lang/CharSequence$1CharIterator"), (5, .class_ 67), (0, u "java/lang/Object")] 63

/-- java/lang/CharSequence -/
def k6 : Class := { plain "java/lang/CharSequence" (some 0) with
  accessFlags := 1537
  interfaces := #[]
  cf := some (fileOf pool6 2 #[.nestMembers #[47, 59]] #[] 1537 66 #[] #[])
  fields := #[]
  methods := #[]
  instanceTypes := #[]
  staticTypes := #[]
  resolved := Array.replicate 131 none
  statics := none }

def pool7 : Array CpInfo := pool [(1, .class_ 2), (0, u "java/lang/constant/Constable"), (0, .class_ 4), (0, u "java/lang/Object")] 6

/-- java/lang/constant/Constable -/
def k7 : Class := { plain "java/lang/constant/Constable" (some 0) with
  accessFlags := 1537
  interfaces := #[]
  cf := some (fileOf pool7 1 #[] #[] 1537 3 #[] #[])
  fields := #[]
  methods := #[]
  instanceTypes := #[]
  staticTypes := #[]
  resolved := Array.replicate 11 none
  statics := none }

def pool8 : Array CpInfo := pool [(1, .class_ 2), (0, u "java/lang/constant/ConstantDesc"), (0, .class_ 4), (0, u "java/lang/Object")] 32

/-- java/lang/constant/ConstantDesc -/
def k8 : Class := { plain "java/lang/constant/ConstantDesc" (some 0) with
  accessFlags := 1537
  interfaces := #[]
  cf := some (fileOf pool8 1 #[] #[] 1537 3 #[] #[])
  fields := #[]
  methods := #[]
  instanceTypes := #[]
  staticTypes := #[]
  resolved := Array.replicate 37 none
  statics := none }

def pool9 : Array CpInfo := pool [(2, .class_ 4), (1, u "java/lang/Object"), (0, u "<init>"), (0, u "()V"), (3, .class_ 12), (1, u "java/lang/String"), (0, u "value"), (0, u "[B"), (2, u "coder"), (0, u "B"), (2, u "hash"), (0, u "I"), (2, u "hashIsZero"), (0, u "Z"), (13, u "COMPACT_STRINGS"), (534, .class_ 576), (0, u "java/lang/CharSequence"), (22, u "CASE_INSENSITIVE_ORDER"), (0, u "Ljava/util/Comparator;"), (500, u "serialPersistentFields"), (0, u "[Ljava/io/ObjectStreamField;"), (0, .class_ 1104), (0, u "java/lang/String$CaseInsensitiveComparator"), (1, .class_ 1107), (0, u "java/io/Serializable"), (0, .class_ 1109), (0, u "java/lang/Comparable"), (0, .class_ 1111), (0, u "java/lang/constant/Constable"), (0, .class_ 1113), (0, u "java/lang/constant/ConstantDesc"), (2, u "serialVersionUID"), (0, u "J"), (3, u "REPL"), (0, u "C"), (2, u "LATIN1"), (1, u "UTF16")] 323

def k9m0 : Method := { name := "<init>", desc := "()V", sig := { parameters := [], returnType := none }, accessFlags := 1, code := none }
/-- java/lang/String -/
def k9 : Class := { plain "java/lang/String" (some 0) with
  accessFlags := 49
  interfaces := #[4, 5, 6, 7, 8]
  cf := some (fileOf pool9 10 #[.nestMembers #[1103]] #[{ accessFlags := 1, nameIndex := 5, descriptorIndex := 6, attributes := #[] }] 49 2 #[1106, 1108, 575, 1110, 1112] #[{ accessFlags := 18, nameIndex := 13, descriptorIndex := 14, attributes := #[] }, { accessFlags := 18, nameIndex := 17, descriptorIndex := 18, attributes := #[] }, { accessFlags := 2, nameIndex := 21, descriptorIndex := 22, attributes := #[] }, { accessFlags := 2, nameIndex := 25, descriptorIndex := 26, attributes := #[] }, { accessFlags := 26, nameIndex := 1116, descriptorIndex := 1117, attributes := #[] }, { accessFlags := 24, nameIndex := 40, descriptorIndex := 26, attributes := #[] }, { accessFlags := 26, nameIndex := 1101, descriptorIndex := 1102, attributes := #[] }, { accessFlags := 26, nameIndex := 1121, descriptorIndex := 1122, attributes := #[] }, { accessFlags := 25, nameIndex := 599, descriptorIndex := 600, attributes := #[] }, { accessFlags := 24, nameIndex := 1125, descriptorIndex := 18, attributes := #[] }, { accessFlags := 24, nameIndex := 1127, descriptorIndex := 18, attributes := #[] }])
  fields := #[{ name := "value", type := (.array .byte), accessFlags := 18, slot := 0, constantValue := 0 }, { name := "coder", type := .byte, accessFlags := 18, slot := 1, constantValue := 0 }, { name := "hash", type := .int, accessFlags := 2, slot := 2, constantValue := 0 }, { name := "hashIsZero", type := .boolean, accessFlags := 2, slot := 3, constantValue := 0 }, { name := "serialVersionUID", type := .long, accessFlags := 26, slot := 0, constantValue := 0 }, { name := "COMPACT_STRINGS", type := .boolean, accessFlags := 24, slot := 1, constantValue := 0 }, { name := "serialPersistentFields", type := (.array (.object "java/io/ObjectStreamField")), accessFlags := 26, slot := 2, constantValue := 0 }, { name := "REPL", type := .char, accessFlags := 26, slot := 3, constantValue := 0 }, { name := "CASE_INSENSITIVE_ORDER", type := (.object "java/util/Comparator"), accessFlags := 25, slot := 4, constantValue := 0 }, { name := "LATIN1", type := .byte, accessFlags := 24, slot := 5, constantValue := 0 }, { name := "UTF16", type := .byte, accessFlags := 24, slot := 6, constantValue := 0 }]
  methods := #[k9m0]
  instanceTypes := #[(.array .byte), .byte, .int, .boolean]
  staticTypes := #[.long, .boolean, (.array (.object "java/io/ObjectStreamField")), .char, (.object "java/util/Comparator"), .byte, .byte]
  resolved := Array.replicate 1451 none
  statics := none }

def pool10 : Array CpInfo := pool [(2, .class_ 4), (1, u "java/lang/Object"), (0, u "<init>"), (0, u "()V"), (2, .double 9218868437227405312), (1, .methodref 12 13), (0, .class_ 14), (0, .nameAndType 15 16), (0, u "com/example/hernieuw/hernieuw/numeric/Range"), (0, u "contains"), (0, u "(DZ)Z"), (39, u "require"), (0, u "(DZLjava/lang/String;)V")] 24

def k10m0 : Method := { name := "<init>", desc := "()V", sig := { parameters := [], returnType := none }, accessFlags := 2, code := none }
def k10c1 : Code := { maxStack := 4, maxLocals := 3, code := prog_71_method_2_code, exceptionTable := #[], attributes := #[] }
def k10m1 : Method := { name := "contains", desc := "(DZ)Z", sig := { parameters := [.double, .boolean], returnType := some .boolean }, accessFlags := 9, code := some k10c1 }
def k10c2 : Code := { maxStack := 6, maxLocals := 4, code := prog_71_method_3_code, exceptionTable := #[], attributes := #[] }
def k10m2 : Method := { name := "require", desc := "(DZLjava/lang/String;)V", sig := { parameters := [.double, .boolean, (.object "java/lang/String")], returnType := none }, accessFlags := 9, code := some k10c2 }
/-- com/example/hernieuw/hernieuw/numeric/Range -/
def k10 : Class := { plain "com/example/hernieuw/hernieuw/numeric/Range" (some 0) with
  accessFlags := 49
  interfaces := #[]
  cf := some (fileOf pool10 12 #[] #[{ accessFlags := 2, nameIndex := 5, descriptorIndex := 6, attributes := #[] }, { accessFlags := 9, nameIndex := 15, descriptorIndex := 16, attributes := #[] }, { accessFlags := 9, nameIndex := 56, descriptorIndex := 57, attributes := #[] }] 49 2 #[] #[])
  fields := #[]
  methods := #[k10m0, k10m1, k10m2]
  instanceTypes := #[]
  staticTypes := #[]
  resolved := Array.replicate 82 none
  statics := none }

def pool11 : Array CpInfo := pool [(3, .methodref 4 5), (0, .class_ 6), (0, .nameAndType 7 8), (0, u "java/lang/Object"), (0, u "<init>"), (0, u "()V"), (0, .fieldref 10 11), (0, .class_ 12), (0, .nameAndType 13 14), (0, u "com/example/hernieuw/hernieuw/crawl/UrlRates"), (0, u "lastSeen"), (0, u "[J"), (0, .class_ 16), (0, u "com/example/hernieuw/hernieuw/estimation/RateEstimates"), (0, .methodref 15 18), (0, .nameAndType 7 19), (0, u "(ILcom/example/hernieuw/hernieuw/estimation/Estimator;Lcom/example/hernieuw/hernieuw/estimation/FetchHistory;I)V"), (0, .fieldref 10 21), (0, .nameAndType 22 23), (0, u "estimates"), (0, u "Lcom/example/hernieuw/hernieuw/estimation/RateEstimates;"), (0, .fieldref 10 25), (0, .nameAndType 26 27), (0, u "memory"), (0, u "I"), (2, .integer 2147483647), (3, u "()I"), (81, u "MILLIS_PER_DAY"), (0, u "D"), (1, u "NONE"), (0, u "J"), (0, u "(Lcom/example/hernieuw/hernieuw/estimation/Estimator;Lcom/example/hernieuw/hernieuw/estimation/FetchHistory;I)V"), (2, u "observationsUsed")] 9

def k11c0 : Code := { maxStack := 7, maxLocals := 4, code := prog_50_method_1_code, exceptionTable := #[], attributes := #[] }
def k11m0 : Method := { name := "<init>", desc := "(Lcom/example/hernieuw/hernieuw/estimation/Estimator;Lcom/example/hernieuw/hernieuw/estimation/FetchHistory;I)V", sig := { parameters := [(.object "com/example/hernieuw/hernieuw/estimation/Estimator"), (.object "com/example/hernieuw/hernieuw/estimation/FetchHistory"), .int], returnType := none }, accessFlags := 1, code := some k11c0 }
def k11c1 : Code := { maxStack := 2, maxLocals := 1, code := prog_50_method_2_code, exceptionTable := #[], attributes := #[] }
def k11m1 : Method := { name := "observationsUsed", desc := "()I", sig := { parameters := [], returnType := some .int }, accessFlags := 0, code := some k11c1 }
/-- com/example/hernieuw/hernieuw/crawl/UrlRates -/
def k11 : Class := { plain "com/example/hernieuw/hernieuw/crawl/UrlRates" (some 0) with
  accessFlags := 49
  interfaces := #[]
  cf := some (fileOf pool11 10 #[] #[{ accessFlags := 1, nameIndex := 7, descriptorIndex := 121, attributes := #[] }, { accessFlags := 0, nameIndex := 124, descriptorIndex := 34, attributes := #[] }] 49 4 #[] #[{ accessFlags := 26, nameIndex := 116, descriptorIndex := 117, attributes := #[] }, { accessFlags := 26, nameIndex := 119, descriptorIndex := 120, attributes := #[] }, { accessFlags := 18, nameIndex := 22, descriptorIndex := 23, attributes := #[] }, { accessFlags := 18, nameIndex := 26, descriptorIndex := 27, attributes := #[] }, { accessFlags := 2, nameIndex := 13, descriptorIndex := 14, attributes := #[] }])
  fields := #[{ name := "MILLIS_PER_DAY", type := .double, accessFlags := 26, slot := 0, constantValue := 0 }, { name := "NONE", type := .long, accessFlags := 26, slot := 1, constantValue := 0 }, { name := "estimates", type := (.object "com/example/hernieuw/hernieuw/estimation/RateEstimates"), accessFlags := 18, slot := 0, constantValue := 0 }, { name := "memory", type := .int, accessFlags := 18, slot := 1, constantValue := 0 }, { name := "lastSeen", type := (.array .long), accessFlags := 2, slot := 2, constantValue := 0 }]
  methods := #[k11m0, k11m1]
  instanceTypes := #[(.object "com/example/hernieuw/hernieuw/estimation/RateEstimates"), .int, (.array .long)]
  staticTypes := #[.double, .long]
  resolved := Array.replicate 134 none
  statics := none }

def pool12 : Array CpInfo := pool [(2, .class_ 4), (1, u "java/lang/Enum"), (0, u "name"), (0, u "Ljava/lang/String;"), (2, u "ordinal"), (0, u "I"), (1, .class_ 14), (1, u "java/lang/Object"), (4, u "hash"), (86, .class_ 108), (1, u "java/lang/Enum$EnumDesc"), (2, .class_ 112), (0, u "java/lang/constant/Constable"), (0, .class_ 114), (0, u "java/lang/Comparable"), (0, .class_ 116), (0, u "java/io/Serializable")] 87

/-- java/lang/Enum -/
def k12 : Class := { plain "java/lang/Enum" (some 0) with
  accessFlags := 1057
  interfaces := #[7, 5, 4]
  cf := some (fileOf pool12 2 #[.nestMembers #[106]] #[] 1057 12 #[111, 113, 115] #[{ accessFlags := 18, nameIndex := 5, descriptorIndex := 6, attributes := #[] }, { accessFlags := 18, nameIndex := 9, descriptorIndex := 10, attributes := #[] }, { accessFlags := 2, nameIndex := 19, descriptorIndex := 10, attributes := #[] }])
  fields := #[{ name := "name", type := (.object "java/lang/String"), accessFlags := 18, slot := 0, constantValue := 0 }, { name := "ordinal", type := .int, accessFlags := 18, slot := 1, constantValue := 0 }, { name := "hash", type := .int, accessFlags := 2, slot := 2, constantValue := 0 }]
  methods := #[]
  instanceTypes := #[(.object "java/lang/String"), .int, .int]
  staticTypes := #[]
  resolved := Array.replicate 204 none
  statics := none }

def pool13 : Array CpInfo := pool [(1, .class_ 2), (0, u "com/example/hernieuw/hernieuw/estimation/Estimator"), (2, u "NAIVE"), (0, u "Lcom/example/hernieuw/hernieuw/estimation/Estimator;"), (2, u "IMPROVED"), (2, u "MLE"), (2, u "$VALUES"), (0, u "[Lcom/example/hernieuw/hernieuw/estimation/Estimator;"), (6, .class_ 25), (1, u "java/lang/Enum"), (6, .methodref 33 34), (0, .class_ 35), (0, .nameAndType 36 37), (0, u "com/example/hernieuw/hernieuw/estimation/FetchHistory"), (0, u "fetches"), (0, u "()I"), (7, .methodref 1 46), (0, .nameAndType 47 48), (0, u "estimate"), (0, u "(Lcom/example/hernieuw/hernieuw/estimation/FetchHistory;)D"), (0, .class_ 50), (0, u "com/example/hernieuw/hernieuw/estimation/Estimator$1"), (2, .class_ 54), (0, u "com/example/hernieuw/hernieuw/estimation/Estimator$2"), (2, .class_ 58), (0, u "com/example/hernieuw/hernieuw/estimation/Estimator$3"), (13, u "rate")] 8

def k13c0 : Code := { maxStack := 3, maxLocals := 2, code := prog_52_method_4_code, exceptionTable := #[], attributes := #[] }
def k13m0 : Method := { name := "rate", desc := "(Lcom/example/hernieuw/hernieuw/estimation/FetchHistory;)D", sig := { parameters := [(.object "com/example/hernieuw/hernieuw/estimation/FetchHistory")], returnType := some .double }, accessFlags := 1, code := some k13c0 }
def k13m1 : Method := { name := "estimate", desc := "(Lcom/example/hernieuw/hernieuw/estimation/FetchHistory;)D", sig := { parameters := [(.object "com/example/hernieuw/hernieuw/estimation/FetchHistory")], returnType := some .double }, accessFlags := 1024, code := none }
/-- com/example/hernieuw/hernieuw/estimation/Estimator -/
def k13 : Class := { plain "com/example/hernieuw/hernieuw/estimation/Estimator" (some 12) with
  accessFlags := 17441
  interfaces := #[]
  cf := some (fileOf pool13 1 #[.nestMembers #[57, 53, 49]] #[{ accessFlags := 1, nameIndex := 72, descriptorIndex := 48, attributes := #[] }, { accessFlags := 1024, nameIndex := 47, descriptorIndex := 48, attributes := #[] }] 17441 23 #[] #[{ accessFlags := 16409, nameIndex := 5, descriptorIndex := 6, attributes := #[] }, { accessFlags := 16409, nameIndex := 9, descriptorIndex := 6, attributes := #[] }, { accessFlags := 16409, nameIndex := 12, descriptorIndex := 6, attributes := #[] }, { accessFlags := 4122, nameIndex := 15, descriptorIndex := 16, attributes := #[] }])
  fields := #[{ name := "NAIVE", type := (.object "com/example/hernieuw/hernieuw/estimation/Estimator"), accessFlags := 16409, slot := 0, constantValue := 0 }, { name := "IMPROVED", type := (.object "com/example/hernieuw/hernieuw/estimation/Estimator"), accessFlags := 16409, slot := 1, constantValue := 0 }, { name := "MLE", type := (.object "com/example/hernieuw/hernieuw/estimation/Estimator"), accessFlags := 16409, slot := 2, constantValue := 0 }, { name := "$VALUES", type := (.array (.object "com/example/hernieuw/hernieuw/estimation/Estimator")), accessFlags := 4122, slot := 3, constantValue := 0 }]
  methods := #[k13m0, k13m1]
  instanceTypes := #[(.object "java/lang/String"), .int, .int]
  staticTypes := #[(.object "com/example/hernieuw/hernieuw/estimation/Estimator"), (.object "com/example/hernieuw/hernieuw/estimation/Estimator"), (.object "com/example/hernieuw/hernieuw/estimation/Estimator"), (.array (.object "com/example/hernieuw/hernieuw/estimation/Estimator"))]
  resolved := Array.replicate 81 none
  statics := some 0 }

def pool14 : Array CpInfo := pool [(1, .methodref 2 3), (0, .class_ 4), (0, .nameAndType 5 6), (0, u "java/lang/Object"), (0, u "<init>"), (0, u "()V"), (9, .methodref 17 18), (0, .class_ 19), (0, .nameAndType 20 21), (0, u "com/example/hernieuw/hernieuw/estimation/RecentFetches"), (0, u "requireMemory"), (0, u "(I)V"), (0, .methodref 23 24), (0, .class_ 25), (0, .nameAndType 26 27), (0, u "com/example/hernieuw/hernieuw/estimation/Estimator"), (0, u "rate"), (0, u "(Lcom/example/hernieuw/hernieuw/estimation/FetchHistory;)D"), (2, .double 9218868437227405312), (10, .fieldref 42 43), (0, .class_ 44), (0, .nameAndType 45 46), (0, u "com/example/hernieuw/hernieuw/estimation/RateEstimates"), (0, u "estimator"), (0, u "Lcom/example/hernieuw/hernieuw/estimation/Estimator;"), (0, .class_ 48), (0, u "com/example/hernieuw/hernieuw/estimation/FetchHistory"), (0, .methodref 47 50), (0, .nameAndType 5 51), (0, u "(Lcom/example/hernieuw/hernieuw/estimation/FetchHistory;)V"), (0, .fieldref 42 53), (0, .nameAndType 54 55), (0, u "prior"), (0, u "Lcom/example/hernieuw/hernieuw/estimation/FetchHistory;"), (0, .fieldref 42 57), (0, .nameAndType 58 59), (0, u "priorRate"), (0, u "D"), (0, .fieldref 42 61), (0, .nameAndType 62 63), (0, u "memory"), (0, u "I"), (0, .fieldref 42 65), (0, .nameAndType 66 67), (0, u "recent"), (0, u "[Lcom/example/hernieuw/hernieuw/estimation/RecentFetches;"), (0, .fieldref 42 69), (0, .nameAndType 70 71), (0, u "rates"), (0, u "[D"), (0, .fieldref 42 73), (0, .nameAndType 74 75), (0, u "estimated"), (0, u "[Z"), (6, u "count"), (29, u "(ILcom/example/hernieuw/hernieuw/estimation/Estimator;Lcom/example/hernieuw/hernieuw/estimation/FetchHistory;I)V")] 25

def k14c0 : Code := { maxStack := 5, maxLocals := 8, code := prog_58_method_1_code, exceptionTable := #[], attributes := #[] }
def k14m0 : Method := { name := "<init>", desc := "(ILcom/example/hernieuw/hernieuw/estimation/Estimator;Lcom/example/hernieuw/hernieuw/estimation/FetchHistory;I)V", sig := { parameters := [.int, (.object "com/example/hernieuw/hernieuw/estimation/Estimator"), (.object "com/example/hernieuw/hernieuw/estimation/FetchHistory"), .int], returnType := none }, accessFlags := 1, code := some k14c0 }
/-- com/example/hernieuw/hernieuw/estimation/RateEstimates -/
def k14 : Class := { plain "com/example/hernieuw/hernieuw/estimation/RateEstimates" (some 0) with
  accessFlags := 49
  interfaces := #[]
  cf := some (fileOf pool14 42 #[] #[{ accessFlags := 1, nameIndex := 5, descriptorIndex := 112, attributes := #[] }] 49 2 #[] #[{ accessFlags := 18, nameIndex := 45, descriptorIndex := 46, attributes := #[] }, { accessFlags := 18, nameIndex := 54, descriptorIndex := 55, attributes := #[] }, { accessFlags := 18, nameIndex := 58, descriptorIndex := 59, attributes := #[] }, { accessFlags := 18, nameIndex := 62, descriptorIndex := 63, attributes := #[] }, { accessFlags := 2, nameIndex := 66, descriptorIndex := 67, attributes := #[] }, { accessFlags := 2, nameIndex := 70, descriptorIndex := 71, attributes := #[] }, { accessFlags := 2, nameIndex := 74, descriptorIndex := 75, attributes := #[] }, { accessFlags := 2, nameIndex := 82, descriptorIndex := 63, attributes := #[] }])
  fields := #[{ name := "estimator", type := (.object "com/example/hernieuw/hernieuw/estimation/Estimator"), accessFlags := 18, slot := 0, constantValue := 0 }, { name := "prior", type := (.object "com/example/hernieuw/hernieuw/estimation/FetchHistory"), accessFlags := 18, slot := 1, constantValue := 0 }, { name := "priorRate", type := .double, accessFlags := 18, slot := 2, constantValue := 0 }, { name := "memory", type := .int, accessFlags := 18, slot := 3, constantValue := 0 }, { name := "recent", type := (.array (.object "com/example/hernieuw/hernieuw/estimation/RecentFetches")), accessFlags := 2, slot := 4, constantValue := 0 }, { name := "rates", type := (.array .double), accessFlags := 2, slot := 5, constantValue := 0 }, { name := "estimated", type := (.array .boolean), accessFlags := 2, slot := 6, constantValue := 0 }, { name := "count", type := .int, accessFlags := 2, slot := 7, constantValue := 0 }]
  methods := #[k14m0]
  instanceTypes := #[(.object "com/example/hernieuw/hernieuw/estimation/Estimator"), (.object "com/example/hernieuw/hernieuw/estimation/FetchHistory"), .double, .int, (.array (.object "com/example/hernieuw/hernieuw/estimation/RecentFetches")), (.array .double), (.array .boolean), .int]
  staticTypes := #[]
  resolved := Array.replicate 138 none
  statics := none }

def pool15 : Array CpInfo := pool [(2, .class_ 4), (1, u "java/lang/Object"), (3, .class_ 10), (1, u "com/example/hernieuw/hernieuw/estimation/RecentFetches"), (0, u "requireMemory"), (0, u "(I)V"), (2, u "memory"), (0, u "I"), (8, u "intervals"), (0, u "[D"), (2, u "changes"), (0, u "[Z"), (19, u "kept"), (16, u "oldest")] 31

def k15c0 : Code := { maxStack := 3, maxLocals := 1, code := prog_59_method_2_code, exceptionTable := #[], attributes := #[] }
def k15m0 : Method := { name := "requireMemory", desc := "(I)V", sig := { parameters := [.int], returnType := none }, accessFlags := 8, code := some k15c0 }
/-- com/example/hernieuw/hernieuw/estimation/RecentFetches -/
def k15 : Class := { plain "com/example/hernieuw/hernieuw/estimation/RecentFetches" (some 0) with
  accessFlags := 49
  interfaces := #[]
  cf := some (fileOf pool15 8 #[] #[{ accessFlags := 8, nameIndex := 11, descriptorIndex := 12, attributes := #[] }] 49 2 #[] #[{ accessFlags := 18, nameIndex := 15, descriptorIndex := 16, attributes := #[] }, { accessFlags := 2, nameIndex := 25, descriptorIndex := 26, attributes := #[] }, { accessFlags := 2, nameIndex := 29, descriptorIndex := 30, attributes := #[] }, { accessFlags := 2, nameIndex := 67, descriptorIndex := 16, attributes := #[] }, { accessFlags := 2, nameIndex := 50, descriptorIndex := 16, attributes := #[] }])
  fields := #[{ name := "memory", type := .int, accessFlags := 18, slot := 0, constantValue := 0 }, { name := "intervals", type := (.array .double), accessFlags := 2, slot := 1, constantValue := 0 }, { name := "changes", type := (.array .boolean), accessFlags := 2, slot := 2, constantValue := 0 }, { name := "oldest", type := .int, accessFlags := 2, slot := 3, constantValue := 0 }, { name := "kept", type := .int, accessFlags := 2, slot := 4, constantValue := 0 }]
  methods := #[k15m0]
  instanceTypes := #[.int, (.array .double), (.array .boolean), .int, .int]
  staticTypes := #[]
  resolved := Array.replicate 99 none
  statics := none }

def pool16 : Array CpInfo := pool [(2, .class_ 4), (1, u "com/example/hernieuw/hernieuw/estimation/Estimator"), (2, .methodref 8 9), (0, .class_ 10), (0, .nameAndType 11 12), (0, u "com/example/hernieuw/hernieuw/estimation/FetchHistory"), (0, u "changes"), (0, u "()I"), (0, .methodref 8 14), (0, .nameAndType 15 16), (0, u "days"), (0, u "()D"), (0, .class_ 18), (0, u "com/example/hernieuw/hernieuw/estimation/Estimator$1"), (3, u "estimate"), (0, u "(Lcom/example/hernieuw/hernieuw/estimation/FetchHistory;)D")] 5

def k16c0 : Code := { maxStack := 4, maxLocals := 2, code := prog_53_method_2_code, exceptionTable := #[], attributes := #[] }
def k16m0 : Method := { name := "estimate", desc := "(Lcom/example/hernieuw/hernieuw/estimation/FetchHistory;)D", sig := { parameters := [(.object "com/example/hernieuw/hernieuw/estimation/FetchHistory")], returnType := some .double }, accessFlags := 0, code := some k16c0 }
/-- com/example/hernieuw/hernieuw/estimation/Estimator$1 -/
def k16 : Class := { plain "com/example/hernieuw/hernieuw/estimation/Estimator$1" (some 13) with
  accessFlags := 16432
  interfaces := #[]
  cf := some (fileOf pool16 17 #[.nestHost 2] #[{ accessFlags := 0, nameIndex := 22, descriptorIndex := 23, attributes := #[] }] 16432 2 #[] #[])
  fields := #[]
  methods := #[k16m0]
  instanceTypes := #[(.object "java/lang/String"), .int, .int]
  staticTypes := #[]
  resolved := Array.replicate 29 none
  statics := none }

def pool17 : Array CpInfo := pool [(1, .class_ 2), (0, u "java/lang/Cloneable"), (0, .class_ 4), (0, u "java/lang/Object")] 2

/-- java/lang/Cloneable -/
def k17 : Class := { plain "java/lang/Cloneable" (some 0) with
  accessFlags := 1537
  interfaces := #[]
  cf := some (fileOf pool17 1 #[] #[] 1537 3 #[] #[])
  fields := #[]
  methods := #[]
  instanceTypes := #[]
  staticTypes := #[]
  resolved := Array.replicate 7 none
  statics := none }

/-- the primitive boolean -/
def k18 : Class := { plain "boolean" none with kind := .primitive 'Z', accessFlags := 0x411 }
/-- [Z -/
def k19 : Class := { plain "[Z" (some 0) with kind := .array 18 .boolean, interfaces := #[17, 4], accessFlags := 1041 }

/-- the primitive byte -/
def k20 : Class := { plain "byte" none with kind := .primitive 'B', accessFlags := 0x411 }
/-- [B -/
def k21 : Class := { plain "[B" (some 0) with kind := .array 20 .byte, interfaces := #[17, 4], accessFlags := 1041 }

/-- the primitive double -/
def k22 : Class := { plain "double" none with kind := .primitive 'D', accessFlags := 0x411 }
/-- [D -/
def k23 : Class := { plain "[D" (some 0) with kind := .array 22 .double, interfaces := #[17, 4], accessFlags := 1041 }

/-- the primitive int -/
def k24 : Class := { plain "int" none with kind := .primitive 'I', accessFlags := 0x411 }
/-- [I -/
def k25 : Class := { plain "[I" (some 0) with kind := .array 24 .int, interfaces := #[17, 4], accessFlags := 1041 }

/-- the primitive long -/
def k26 : Class := { plain "long" none with kind := .primitive 'J', accessFlags := 0x411 }
/-- [J -/
def k27 : Class := { plain "[J" (some 0) with kind := .array 26 .long, interfaces := #[17, 4], accessFlags := 1041 }

/-- [Lcom/example/hernieuw/hernieuw/estimation/RecentFetches; -/
def k28 : Class := { plain "[Lcom/example/hernieuw/hernieuw/estimation/RecentFetches;" (some 0) with kind := .array 15 (.object "com/example/hernieuw/hernieuw/estimation/RecentFetches"), interfaces := #[17, 4], accessFlags := 1041 }

def heap : Heap := #[{ cls := 13, slots := #[.ref 1, .null, .null, .null], vm := .statics 13 },
  { cls := 16, slots := #[.null, .int 0, .int 0], vm := .none }]
def classes : Array Class := #[k0, k1, k2, k3, k4, k5, k6, k7, k8, k9, k10, k11, k12, k13, k14, k15, k16, k17, k18, k19, k20, k21, k22, k23, k24, k25, k26, k27, k28]
def interned : List (Array UInt16 × Addr) := []
def slotsUsed : Nat := 7
def theMethod : MethodId := ⟨1, 1⟩
def args0 : Array Value := #[.int 5]
def aboutOver (below : List Frame) : State where
  vm := { classes := classes, interned := interned.toArray }
  heap := heap
  slotsUsed := slotsUsed
  threads := #[{ frames := .invoking theMethod args0 :: below }]
def below0 : List Frame := [.native { method := ⟨0, 0⟩, args := #[] }]
def about1 : State := aboutOver below0
def p0 : Program := .bare "" "" ""
def e0 : Env := launch0.env 0 0 0
theorem w_frames : about1.frames = Frame.invoking theMethod args0 :: below0 := rfl
set_option maxRecDepth 65536 in
theorem w_args : argsFit about1.vm theMethod args0 = true := by decide +kernel
set_option maxRecDepth 65536 in
theorem w_heap : heapFits about1 = true := by decide +kernel
set_option maxRecDepth 65536 in
theorem w_runnable : about1.curStatus? = some .runnable := by decide +kernel
set_option maxRecDepth 65536 in
theorem w_alone : about1.alone = true := by decide +kernel
set_option maxRecDepth 65536 in
theorem w_named : about1.methodNamed? x = some theMethod := by decide +kernel
set_option maxRecDepth 65536 in
theorem w_hears : about1.hears theMethod below0 = true := by decide +kernel
set_option maxRecDepth 65536 in
theorem w_ripe : about1.ripe theMethod args0 below0 = true := by decide +kernel
theorem w_running : about1.status = .running := rfl
set_option maxRecDepth 65536 in
theorem w_room : about1.hasRoom e0.platform room_1 = true :=
  launch0.hasRoom_least _ room_1 (by decide +kernel) (by decide +kernel) (by decide +kernel) (by decide +kernel) (by decide +kernel) (by decide +kernel)
theorem allAtoms_all (ts : List Jvm.Cond) (a : Array Jvm.Value) (st : Jvm.State) : (allAtoms ts).before a st = ts.all (fun c => c.before a st) := by
  induction ts with
  | nil => rfl
  | cons c t ih =>
    show (Jvm.Cond.and c (allAtoms t)).before a st = _
    rw [Jvm.Cond.before_and, ih, List.all_cons]
def words1 : List Jvm.Cond := Jvm.Cond.code x code maxLocals ret :: tables_1
/-- a 'code' word, met by the world's own term for the bytes: nothing is compared byte by byte -/
theorem code_word {y : MethodName} {bytes : ByteArray} {mx : Nat} {rt : Option FieldType} {a : Array Value} {s : State} {m : MethodId} {meth : Method} {c : Code} (h1 : s.methodNamed? y = some m) (h2 : s.vm.method? m = some meth) (h3 : meth.code = some c) (h4 : c.code = bytes)
    (h5 : (c.maxLocals == mx && c.exceptionTable.isEmpty && decide (c.maxStack ≤ mostOperands) && decide (meth.sig.returnType = rt) && !meth.locks && decide (parseMethodDescriptor y.desc = some meth.sig)) = true) : (Jvm.Cond.code y bytes mx rt).before a s = true := by
  simp only [Bool.and_eq_true, beq_iff_eq, Bool.not_eq_true', decide_eq_true_eq] at h5
  obtain ⟨⟨⟨⟨⟨g1, g2⟩, g3⟩, g4⟩, g5⟩, g6⟩ := h5
  simp [Cond.before, Cond.holds, Cond.value, h1, h2, h3, h4, g1, g2, g3, g4, g5, g6]
def isCode : Jvm.Cond → Bool
  | .code _ _ _ _ => true
  | _ => false
theorem all_split {L : List Jvm.Cond} {P : Jvm.Cond → Bool} (h1 : L.all (fun c => isCode c || P c) = true) (h2 : ∀ c ∈ L.filter isCode, P c = true) : L.all P = true := by
  refine List.all_eq_true.mpr fun c hc => ?_
  have h := List.all_eq_true.mp h1 c hc
  rcases Bool.eq_false_or_eq_true (isCode c) with hi | hi
  · exact h2 c (List.mem_filter.mpr ⟨hc, hi⟩)
  · simpa [hi] using h
set_option maxRecDepth 65536 in
theorem w_c0 : (Jvm.Cond.code x code maxLocals ret).before args0 about1 = true := code_word (m := ⟨1, 1⟩) (meth := k1m1) (c := k1c1) (by decide +kernel) rfl rfl rfl (by decide +kernel)
set_option maxRecDepth 65536 in
theorem w_c1 : (Jvm.Cond.code ({ cls := "java/lang/Math", name := "max", desc := "(II)I" } : Jvm.MethodName) jdk_29_method_65_code (2 : Nat) (Option.some Jvm.ClassFile.FieldType.int)).before args0 about1 = true := code_word (m := ⟨2, 1⟩) (meth := k2m1) (c := k2c1) (by decide +kernel) rfl rfl rfl (by decide +kernel)
set_option maxRecDepth 65536 in
theorem w_c2 : (Jvm.Cond.code ({ cls := "com/example/hernieuw/hernieuw/estimation/FetchHistory", name := "<init>", desc := "()V" } : Jvm.MethodName) prog_56_method_1_code (1 : Nat) (Option.none : Option Jvm.ClassFile.FieldType)).before args0 about1 = true := code_word (m := ⟨3, 0⟩) (meth := k3m0) (c := k3c0) (by decide +kernel) rfl rfl rfl (by decide +kernel)
set_option maxRecDepth 65536 in
theorem w_c3 : (Jvm.Cond.code ({ cls := "java/lang/Object", name := "<init>", desc := "()V" } : Jvm.MethodName) object_method_1_code (1 : Nat) (Option.none : Option Jvm.ClassFile.FieldType)).before args0 about1 = true := code_word (m := ⟨0, 0⟩) (meth := k0m0) (c := k0c0) (by decide +kernel) rfl rfl rfl (by decide +kernel)
set_option maxRecDepth 65536 in
theorem w_c4 : (Jvm.Cond.code ({ cls := "com/example/hernieuw/hernieuw/estimation/FetchHistory", name := "add", desc := "(DZ)V" } : Jvm.MethodName) prog_56_method_3_code (4 : Nat) (Option.none : Option Jvm.ClassFile.FieldType)).before args0 about1 = true := code_word (m := ⟨3, 2⟩) (meth := k3m2) (c := k3c2) (by decide +kernel) rfl rfl rfl (by decide +kernel)
set_option maxRecDepth 65536 in
theorem w_c5 : (Jvm.Cond.code ({ cls := "com/example/hernieuw/hernieuw/numeric/Range", name := "require", desc := "(DZLjava/lang/String;)V" } : Jvm.MethodName) prog_71_method_3_code (4 : Nat) (Option.none : Option Jvm.ClassFile.FieldType)).before args0 about1 = true := code_word (m := ⟨10, 2⟩) (meth := k10m2) (c := k10c2) (by decide +kernel) rfl rfl rfl (by decide +kernel)
set_option maxRecDepth 65536 in
theorem w_c6 : (Jvm.Cond.code ({ cls := "com/example/hernieuw/hernieuw/numeric/Range", name := "contains", desc := "(DZ)Z" } : Jvm.MethodName) prog_71_method_2_code (3 : Nat) (Option.some Jvm.ClassFile.FieldType.boolean)).before args0 about1 = true := code_word (m := ⟨10, 1⟩) (meth := k10m1) (c := k10c1) (by decide +kernel) rfl rfl rfl (by decide +kernel)
set_option maxRecDepth 65536 in
theorem w_c7 : (Jvm.Cond.code ({ cls := "java/lang/Math", name := "min", desc := "(DD)D" } : Jvm.MethodName) jdk_29_method_72_code (4 : Nat) (Option.some Jvm.ClassFile.FieldType.double)).before args0 about1 = true := code_word (m := ⟨2, 3⟩) (meth := k2m3) (c := k2c3) (by decide +kernel) rfl rfl rfl (by decide +kernel)
set_option maxRecDepth 65536 in
theorem w_c8 : (Jvm.Cond.code ({ cls := "com/example/hernieuw/hernieuw/crawl/UrlRates", name := "<init>", desc := "(Lcom/example/hernieuw/hernieuw/estimation/Estimator;Lcom/example/hernieuw/hernieuw/estimation/FetchHistory;I)V" } : Jvm.MethodName) prog_50_method_1_code (4 : Nat) (Option.none : Option Jvm.ClassFile.FieldType)).before args0 about1 = true := code_word (m := ⟨11, 0⟩) (meth := k11m0) (c := k11c0) (by decide +kernel) rfl rfl rfl (by decide +kernel)
set_option maxRecDepth 65536 in
theorem w_c9 : (Jvm.Cond.code ({ cls := "com/example/hernieuw/hernieuw/estimation/RateEstimates", name := "<init>", desc := "(ILcom/example/hernieuw/hernieuw/estimation/Estimator;Lcom/example/hernieuw/hernieuw/estimation/FetchHistory;I)V" } : Jvm.MethodName) prog_58_method_1_code (8 : Nat) (Option.none : Option Jvm.ClassFile.FieldType)).before args0 about1 = true := code_word (m := ⟨14, 0⟩) (meth := k14m0) (c := k14c0) (by decide +kernel) rfl rfl rfl (by decide +kernel)
set_option maxRecDepth 65536 in
theorem w_c10 : (Jvm.Cond.code ({ cls := "com/example/hernieuw/hernieuw/estimation/RecentFetches", name := "requireMemory", desc := "(I)V" } : Jvm.MethodName) prog_59_method_2_code (1 : Nat) (Option.none : Option Jvm.ClassFile.FieldType)).before args0 about1 = true := code_word (m := ⟨15, 0⟩) (meth := k15m0) (c := k15c0) (by decide +kernel) rfl rfl rfl (by decide +kernel)
set_option maxRecDepth 65536 in
theorem w_c11 : (Jvm.Cond.code ({ cls := "com/example/hernieuw/hernieuw/estimation/Estimator", name := "rate", desc := "(Lcom/example/hernieuw/hernieuw/estimation/FetchHistory;)D" } : Jvm.MethodName) prog_52_method_4_code (2 : Nat) (Option.some Jvm.ClassFile.FieldType.double)).before args0 about1 = true := code_word (m := ⟨13, 0⟩) (meth := k13m0) (c := k13c0) (by decide +kernel) rfl rfl rfl (by decide +kernel)
set_option maxRecDepth 65536 in
theorem w_c12 : (Jvm.Cond.code ({ cls := "com/example/hernieuw/hernieuw/estimation/FetchHistory", name := "fetches", desc := "()I" } : Jvm.MethodName) prog_56_method_4_code (1 : Nat) (Option.some Jvm.ClassFile.FieldType.int)).before args0 about1 = true := code_word (m := ⟨3, 3⟩) (meth := k3m3) (c := k3c3) (by decide +kernel) rfl rfl rfl (by decide +kernel)
set_option maxRecDepth 65536 in
theorem w_c13 : (Jvm.Cond.code ({ cls := "com/example/hernieuw/hernieuw/estimation/Estimator$1", name := "estimate", desc := "(Lcom/example/hernieuw/hernieuw/estimation/FetchHistory;)D" } : Jvm.MethodName) prog_53_method_2_code (2 : Nat) (Option.some Jvm.ClassFile.FieldType.double)).before args0 about1 = true := code_word (m := ⟨16, 0⟩) (meth := k16m0) (c := k16c0) (by decide +kernel) rfl rfl rfl (by decide +kernel)
set_option maxRecDepth 65536 in
theorem w_c14 : (Jvm.Cond.code ({ cls := "com/example/hernieuw/hernieuw/estimation/FetchHistory", name := "changes", desc := "()I" } : Jvm.MethodName) prog_56_method_5_code (1 : Nat) (Option.some Jvm.ClassFile.FieldType.int)).before args0 about1 = true := code_word (m := ⟨3, 4⟩) (meth := k3m4) (c := k3c4) (by decide +kernel) rfl rfl rfl (by decide +kernel)
set_option maxRecDepth 65536 in
theorem w_c15 : (Jvm.Cond.code ({ cls := "com/example/hernieuw/hernieuw/estimation/FetchHistory", name := "days", desc := "()D" } : Jvm.MethodName) prog_56_method_6_code (1 : Nat) (Option.some Jvm.ClassFile.FieldType.double)).before args0 about1 = true := code_word (m := ⟨3, 5⟩) (meth := k3m5) (c := k3c5) (by decide +kernel) rfl rfl rfl (by decide +kernel)
set_option maxRecDepth 65536 in
theorem w_c16 : (Jvm.Cond.code ({ cls := "com/example/hernieuw/hernieuw/estimation/FetchHistory", name := "<init>", desc := "(Lcom/example/hernieuw/hernieuw/estimation/FetchHistory;)V" } : Jvm.MethodName) prog_56_method_2_code (2 : Nat) (Option.none : Option Jvm.ClassFile.FieldType)).before args0 about1 = true := code_word (m := ⟨3, 1⟩) (meth := k3m1) (c := k3c1) (by decide +kernel) rfl rfl rfl (by decide +kernel)
set_option maxRecDepth 65536 in
theorem w_c17 : (Jvm.Cond.code ({ cls := "java/lang/Math", name := "min", desc := "(JJ)J" } : Jvm.MethodName) jdk_29_method_70_code (4 : Nat) (Option.some Jvm.ClassFile.FieldType.long)).before args0 about1 = true := code_word (m := ⟨2, 2⟩) (meth := k2m2) (c := k2c2) (by decide +kernel) rfl rfl rfl (by decide +kernel)
set_option maxRecDepth 65536 in
theorem w_c18 : (Jvm.Cond.code ({ cls := "com/example/hernieuw/hernieuw/crawl/UrlRates", name := "observationsUsed", desc := "()I" } : Jvm.MethodName) prog_50_method_2_code (1 : Nat) (Option.some Jvm.ClassFile.FieldType.int)).before args0 about1 = true := code_word (m := ⟨11, 1⟩) (meth := k11m1) (c := k11c1) (by decide +kernel) rfl rfl rfl (by decide +kernel)
def codes1 : List Jvm.Cond := [Jvm.Cond.code x code maxLocals ret, Jvm.Cond.code ({ cls := "java/lang/Math", name := "max", desc := "(II)I" } : Jvm.MethodName) jdk_29_method_65_code (2 : Nat) (Option.some Jvm.ClassFile.FieldType.int), Jvm.Cond.code ({ cls := "com/example/hernieuw/hernieuw/estimation/FetchHistory", name := "<init>", desc := "()V" } : Jvm.MethodName) prog_56_method_1_code (1 : Nat) (Option.none : Option Jvm.ClassFile.FieldType), Jvm.Cond.code ({ cls := "java/lang/Object", name := "<init>", desc := "()V" } : Jvm.MethodName) object_method_1_code (1 : Nat) (Option.none : Option Jvm.ClassFile.FieldType), Jvm.Cond.code ({ cls := "com/example/hernieuw/hernieuw/estimation/FetchHistory", name := "add", desc := "(DZ)V" } : Jvm.MethodName) prog_56_method_3_code (4 : Nat) (Option.none : Option Jvm.ClassFile.FieldType), Jvm.Cond.code ({ cls := "com/example/hernieuw/hernieuw/numeric/Range", name := "require", desc := "(DZLjava/lang/String;)V" } : Jvm.MethodName) prog_71_method_3_code (4 : Nat) (Option.none : Option Jvm.ClassFile.FieldType), Jvm.Cond.code ({ cls := "com/example/hernieuw/hernieuw/numeric/Range", name := "contains", desc := "(DZ)Z" } : Jvm.MethodName) prog_71_method_2_code (3 : Nat) (Option.some Jvm.ClassFile.FieldType.boolean), Jvm.Cond.code ({ cls := "java/lang/Math", name := "min", desc := "(DD)D" } : Jvm.MethodName) jdk_29_method_72_code (4 : Nat) (Option.some Jvm.ClassFile.FieldType.double), Jvm.Cond.code ({ cls := "com/example/hernieuw/hernieuw/crawl/UrlRates", name := "<init>", desc := "(Lcom/example/hernieuw/hernieuw/estimation/Estimator;Lcom/example/hernieuw/hernieuw/estimation/FetchHistory;I)V" } : Jvm.MethodName) prog_50_method_1_code (4 : Nat) (Option.none : Option Jvm.ClassFile.FieldType), Jvm.Cond.code ({ cls := "com/example/hernieuw/hernieuw/estimation/RateEstimates", name := "<init>", desc := "(ILcom/example/hernieuw/hernieuw/estimation/Estimator;Lcom/example/hernieuw/hernieuw/estimation/FetchHistory;I)V" } : Jvm.MethodName) prog_58_method_1_code (8 : Nat) (Option.none : Option Jvm.ClassFile.FieldType), Jvm.Cond.code ({ cls := "com/example/hernieuw/hernieuw/estimation/RecentFetches", name := "requireMemory", desc := "(I)V" } : Jvm.MethodName) prog_59_method_2_code (1 : Nat) (Option.none : Option Jvm.ClassFile.FieldType), Jvm.Cond.code ({ cls := "com/example/hernieuw/hernieuw/estimation/Estimator", name := "rate", desc := "(Lcom/example/hernieuw/hernieuw/estimation/FetchHistory;)D" } : Jvm.MethodName) prog_52_method_4_code (2 : Nat) (Option.some Jvm.ClassFile.FieldType.double), Jvm.Cond.code ({ cls := "com/example/hernieuw/hernieuw/estimation/FetchHistory", name := "fetches", desc := "()I" } : Jvm.MethodName) prog_56_method_4_code (1 : Nat) (Option.some Jvm.ClassFile.FieldType.int), Jvm.Cond.code ({ cls := "com/example/hernieuw/hernieuw/estimation/Estimator$1", name := "estimate", desc := "(Lcom/example/hernieuw/hernieuw/estimation/FetchHistory;)D" } : Jvm.MethodName) prog_53_method_2_code (2 : Nat) (Option.some Jvm.ClassFile.FieldType.double), Jvm.Cond.code ({ cls := "com/example/hernieuw/hernieuw/estimation/FetchHistory", name := "changes", desc := "()I" } : Jvm.MethodName) prog_56_method_5_code (1 : Nat) (Option.some Jvm.ClassFile.FieldType.int), Jvm.Cond.code ({ cls := "com/example/hernieuw/hernieuw/estimation/FetchHistory", name := "days", desc := "()D" } : Jvm.MethodName) prog_56_method_6_code (1 : Nat) (Option.some Jvm.ClassFile.FieldType.double), Jvm.Cond.code ({ cls := "com/example/hernieuw/hernieuw/estimation/FetchHistory", name := "<init>", desc := "(Lcom/example/hernieuw/hernieuw/estimation/FetchHistory;)V" } : Jvm.MethodName) prog_56_method_2_code (2 : Nat) (Option.none : Option Jvm.ClassFile.FieldType), Jvm.Cond.code ({ cls := "java/lang/Math", name := "min", desc := "(JJ)J" } : Jvm.MethodName) jdk_29_method_70_code (4 : Nat) (Option.some Jvm.ClassFile.FieldType.long), Jvm.Cond.code ({ cls := "com/example/hernieuw/hernieuw/crawl/UrlRates", name := "observationsUsed", desc := "()I" } : Jvm.MethodName) prog_50_method_2_code (1 : Nat) (Option.some Jvm.ClassFile.FieldType.int)]
set_option maxRecDepth 65536 in
theorem codes_eq : words1.filter isCode = codes1 := rfl
theorem w_codes : ∀ c ∈ words1.filter isCode, c.before args0 about1 = true := by
  rw [codes_eq]
  intro c hc
  simp only [codes1, List.mem_cons, List.not_mem_nil, or_false] at hc
  rcases hc with rfl | rfl | rfl | rfl | rfl | rfl | rfl | rfl | rfl | rfl | rfl | rfl | rfl | rfl | rfl | rfl | rfl | rfl | rfl
  · exact w_c0
  · exact w_c1
  · exact w_c2
  · exact w_c3
  · exact w_c4
  · exact w_c5
  · exact w_c6
  · exact w_c7
  · exact w_c8
  · exact w_c9
  · exact w_c10
  · exact w_c11
  · exact w_c12
  · exact w_c13
  · exact w_c14
  · exact w_c15
  · exact w_c16
  · exact w_c17
  · exact w_c18
set_option maxRecDepth 65536 in
theorem w_t1 : (words1.take 24).all (fun c => isCode c || c.before args0 about1) = true := by decide +kernel
set_option maxRecDepth 65536 in
theorem w_t2 : ((words1.drop 24).take 24).all (fun c => isCode c || c.before args0 about1) = true := by decide +kernel
set_option maxRecDepth 65536 in
theorem w_t3 : (((words1.drop 24).drop 24).take 24).all (fun c => isCode c || c.before args0 about1) = true := by decide +kernel
set_option maxRecDepth 65536 in
theorem w_t4 : ((((words1.drop 24).drop 24).drop 24).take 24).all (fun c => isCode c || c.before args0 about1) = true := by decide +kernel
set_option maxRecDepth 65536 in
theorem w_t5 : (((((words1.drop 24).drop 24).drop 24).drop 24).take 24).all (fun c => isCode c || c.before args0 about1) = true := by decide +kernel
set_option maxRecDepth 65536 in
theorem w_t6 : ((((((words1.drop 24).drop 24).drop 24).drop 24).drop 24).take 24).all (fun c => isCode c || c.before args0 about1) = true := by decide +kernel
set_option maxRecDepth 65536 in
theorem w_t7 : ((((((words1.drop 24).drop 24).drop 24).drop 24).drop 24).drop 24).all (fun c => isCode c || c.before args0 about1) = true := by decide +kernel
theorem w_tables : (allAtoms (Jvm.Cond.code x code maxLocals ret :: tables_1)).before args0 about1 = true := by
  rw [allAtoms_all]
  show words1.all (fun c => c.before args0 about1) = true
  refine all_split ?_ w_codes
  rw [← List.take_append_drop 24 words1, List.all_append, w_t1, ← List.take_append_drop 24 (words1.drop 24), List.all_append, w_t2, ← List.take_append_drop 24 ((words1.drop 24).drop 24), List.all_append, w_t3, ← List.take_append_drop 24 (((words1.drop 24).drop 24).drop 24), List.all_append, w_t4, ← List.take_append_drop 24 ((((words1.drop 24).drop 24).drop 24).drop 24), List.all_append, w_t5, ← List.take_append_drop 24 (((((words1.drop 24).drop 24).drop 24).drop 24).drop 24), List.all_append, w_t6, w_t7]
  rfl
set_option maxRecDepth 65536 in
theorem w_case : (Jvm.Cond.and given_1 narrow_1).before args0 about1 = true := by decide +kernel
theorem w_applies : (headSpec (Jvm.Cond.code x code maxLocals ret :: tables_1) room_1).applies x e0.platform about1 = true :=
  (Spec.applies_iff w_frames).mpr ⟨w_running, w_runnable, w_alone, w_named, w_hears, w_ripe, w_room, w_tables⟩
theorem atStart : AtStart classFile x code maxLocals ret World_1 tables_1 room_1 Calls_1 rest_1 Pre_1 launch0 p0 e0 about1 theMethod args0 below0 :=
  ⟨lists_1, trivial, launch0.admits_env _ _ _, launch0.least_env, fairChoices_fair.cas, fairChoices_fair.clock, w_frames, w_args, w_heap, w_applies, trivial, trivial, w_case⟩
end start1
theorem witness_1 : WitnessClaimed_1 := ⟨start1.p0, start1.e0, start1.about1, start1.theMethod, start1.args0, start1.below0, start1.atStart⟩
end Jvm.Pilot.@@N@@
