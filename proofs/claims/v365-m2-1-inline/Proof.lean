import JvmDerived
import JvmDerived.Pilot.@@N@@Statement
import JvmDerived.Pilot.@@N@@Code
set_option linter.unusedVariables false
set_option linter.unusedSimpArgs false
namespace Jvm.Pilot.@@N@@
open Jvm Jvm.ClassFile Sem Op Lib Jvm.Free Jvm.Stand Jvm.LawKit Jvm.RoadKit Bundle Jvm.Pilot.@@N@@.Jvm.D

/-! ## own kit: a walk as a tree -/
section OwnKit
variable {p : Program} {l : Launch} {e : Env} {R : Room} {s : State} {m : MethodId} {args : Array Value} {below : List Frame} {meth : Method} {c : Code} {T T' : State} {locs : List Loc} {cells slots : Nat} {Q : Option Value → Heap → List Loc → Prop} {f f' : JFrame} {Z : State} {a0 : Array Value} {h h' : Heap}
/-- from here the body comes to its return, and Q holds there -/
def Go (p : Program) (e : Env) (s : State) (below : List Frame) (R : Room) (Q : Option Value → Heap → List Loc → Prop) (T : State) (f : JFrame) : Prop :=
  ∃ s₂ o, Steps p.tables e below (T.setTop f) s₂ ∧ s₂.status = .running ∧ Ended s₂ below o ∧ ∃ v L, o = .returned v ∧ Q v s₂.heap L ∧ FrameEnd s o s₂ L R.cells R.slots
theorem Go.of (k : ∀ t, Steps p.tables e below (T'.setTop f') t → Steps p.tables e below (T.setTop f) t) (G : Go p e s below R Q T' f') : Go p e s below R Q T f := by
  obtain ⟨s2, o, h1, h2⟩ := G
  exact ⟨s2, o, k _ h1, h2⟩
theorem Go.cast (q : f = f') (G : Go p e s below R Q T f') : Go p e s below R Q T f := q ▸ G
theorem Go.retO (X : Stand p l e R s m args below meth c T locs cells slots) (hx : p.tables.exec = Jvm.exec) (hlk : meth.locks = false) {pc : Nat} {Ls : Array Slot} {w : Value} {t : FieldType} {i : Instr} {rest : List Value} (hret : meth.sig.returnType = some t) (hn : narrow t w = w)
    (hi : (i = .ireturn ∧ (t = .int ∨ t = .boolean ∨ t = .byte ∨ t = .char ∨ t = .short) ∧ ∃ z, w = .int z) ∨ (i = .lreturn ∧ t = .long ∧ ∃ z, w = .long z) ∨ (i = .dreturn ∧ t = .double ∧ ∃ z, w = .double z) ∨ (i = .freturn ∧ t = .float ∧ ∃ z, w = .float z) ∨ (i = .areturn ∧ t.isReference = true ∧ w.isRef = true))
    (hd : decode c.code pc = .ok (i, 1)) (hc : cells ≤ R.cells) (hs : slots ≤ R.slots) (hq : Q (some w) T.heap locs) : Go p e s below R Q T (mkF m pc Ls (w :: rest)) := by
  obtain ⟨fs, hr, hrun, hended, hW, hsame⟩ := X.leave (v := some w) (fun h => by rw [hret] at h; cases h) hlk
  exact ⟨_, _, retOut X hx hret hn hi hd hr, hrun, hended, _, _, rfl, hq, ⟨_, rfl⟩, hW, hsame.mono hc hs⟩
theorem Go.retI (X : Stand p l e R s m args below meth c T locs cells slots) (hx : p.tables.exec = Jvm.exec) (hlk : meth.locks = false) (hret : meth.sig.returnType = some .int) {pc : Nat} {Ls : Array Slot} {z : Int32} {rest : List Value}
    (hd : decode c.code pc = .ok (.ireturn, 1)) (hc : cells ≤ R.cells) (hs : slots ≤ R.slots) (hq : Q (some (.int z)) T.heap locs) : Go p e s below R Q T (mkF m pc Ls (.int z :: rest)) :=
  Go.retO X hx hlk hret rfl (Or.inl ⟨rfl, Or.inl rfl, _, rfl⟩) hd hc hs hq
theorem Go.retJ (X : Stand p l e R s m args below meth c T locs cells slots) (hx : p.tables.exec = Jvm.exec) (hlk : meth.locks = false) (hret : meth.sig.returnType = some .long) {pc : Nat} {Ls : Array Slot} {z : Int64} {rest : List Value}
    (hd : decode c.code pc = .ok (.lreturn, 1)) (hc : cells ≤ R.cells) (hs : slots ≤ R.slots) (hq : Q (some (.long z)) T.heap locs) : Go p e s below R Q T (mkF m pc Ls (.long z :: rest)) :=
  Go.retO X hx hlk hret rfl (Or.inr (Or.inl ⟨rfl, rfl, _, rfl⟩)) hd hc hs hq
theorem Go.retD (X : Stand p l e R s m args below meth c T locs cells slots) (hx : p.tables.exec = Jvm.exec) (hlk : meth.locks = false) (hret : meth.sig.returnType = some .double) {pc : Nat} {Ls : Array Slot} {z : UInt64} {rest : List Value}
    (hd : decode c.code pc = .ok (.dreturn, 1)) (hc : cells ≤ R.cells) (hs : slots ≤ R.slots) (hq : Q (some (.double z)) T.heap locs) : Go p e s below R Q T (mkF m pc Ls (.double z :: rest)) :=
  Go.retO X hx hlk hret rfl (Or.inr (Or.inr (Or.inl ⟨rfl, rfl, _, rfl⟩))) hd hc hs hq
theorem Go.retA (X : Stand p l e R s m args below meth c T locs cells slots) (hx : p.tables.exec = Jvm.exec) (hlk : meth.locks = false) {t : FieldType} (hret : meth.sig.returnType = some t) (ht : t.isReference = true) {pc : Nat} {Ls : Array Slot} {w : Value} {rest : List Value}
    (hw : w.isRef = true) (hd : decode c.code pc = .ok (.areturn, 1)) (hc : cells ≤ R.cells) (hs : slots ≤ R.slots) (hq : Q (some w) T.heap locs) : Go p e s below R Q T (mkF m pc Ls (w :: rest)) :=
  Go.retO X hx hlk hret (by cases t <;> first | (cases ht; done) | rfl) (Or.inr (Or.inr (Or.inr (Or.inr ⟨rfl, ht, hw⟩)))) hd hc hs hq
theorem Go.retB (X : Stand p l e R s m args below meth c T locs cells slots) (hx : p.tables.exec = Jvm.exec) (hlk : meth.locks = false) {t : FieldType} (hret : meth.sig.returnType = some t) (ht : t = .boolean ∨ t = .byte ∨ t = .char ∨ t = .short) {pc : Nat} {Ls : Array Slot} {z : Int32} {rest : List Value}
    (hd : decode c.code pc = .ok (.ireturn, 1)) (hc : cells ≤ R.cells) (hs : slots ≤ R.slots) {z' : Int32} (hz : nar t z = z') (hq : Q (some (.int z')) T.heap locs) : Go p e s below R Q T (mkF m pc Ls (.int z :: rest)) := by
  subst hz
  obtain ⟨fs, hr, hrun, hended, hW, hsame⟩ := X.leave (v := some (.int (nar t z))) (fun h => by rw [hret] at h; cases h) hlk
  exact ⟨_, _, retN X hx hret ht hd hr, hrun, hended, _, _, rfl, hq, ⟨_, rfl⟩, hW, hsame.mono hc hs⟩
theorem Go.retV (X : Stand p l e R s m args below meth c T locs cells slots) (hx : p.tables.exec = Jvm.exec) (hlk : meth.locks = false) (hret : meth.sig.returnType = none) {pc : Nat} {Ls : Array Slot}
    (hd : decode c.code pc = .ok (.return_, 1)) (hc : cells ≤ R.cells) (hs : slots ≤ R.slots) (hq : Q none T.heap locs) : Go p e s below R Q T (mkF m pc Ls []) := by
  obtain ⟨fs, hr, hrun, hended, hW, hsame⟩ := X.leave (v := none) (fun _ => rfl) hlk
  exact ⟨_, _, X.returnOut hx hret hd hr, hrun, hended, _, _, rfl, hq, ⟨_, rfl⟩, hW, hsame.mono hc hs⟩
/-- a body's contract: handed as', over the heap h, it returns and Q holds -/
def Ok (l : Launch) (Z : State) (y : MethodName) (bytes : ByteArray) (maxL : Nat) (ret : Option FieldType) (rm : Room) (as' : Array Value) (h : Heap) (Q : Option Value → Heap → List Loc → Prop) : Prop :=
  ∀ ws : List Jvm.Cond, MetFree l y (head1 (Jvm.Cond.code y bytes maxL ret :: ws) rm) (fun a U => a = as' ∧ Z.Warmed39 U.vm ∧ U.heap = h) (fun _ _ _ _ _ => True) (fun _ U o U' => ∃ v L, o = .returned v ∧ Q v U'.heap L ∧ FrameEnd U o U' L rm.cells rm.slots)
theorem Ok.mk {y : MethodName} {bytes : ByteArray} {maxL : Nat} {ret : Option FieldType} {rm : Room} {as' : Array Value} (hn : plainFor y = true)
    (k : ∀ p e s m below meth c s₁, p.tables.exec = Jvm.exec → c.code = bytes → c.maxLocals = maxL → s.vm.findClass y.cls = some m.cls → meth.name = y.name → meth.sig.returnType = ret → meth.locks = false → Z.Warmed39 s.vm → s₁.heap = h → Stand p l e rm s m as' below meth c s₁ [] 0 0 → Go p e s below rm Q s₁ (entryFrame m as' maxL)) :
    Ok l Z y bytes maxL ret rm as' h Q := by
  intro ws
  refine MetFree.of_bodySF hn hisR ?_
  intro p e s m args below meth c s₁ Bd hml0 hP hK
  obtain ⟨rfl, hZ, hh⟩ := hP
  exact k p e s m below meth c s₁ Bd.exec Bd.bytes hml0 (findClass_of_methodNamed Bd.named) (name_of_methodNamed Bd.named Bd.method).1 Bd.returns Bd.notSynchronized hZ (by rw [← hh, Bd.state]; rfl) (Stand.of_body Bd)
theorem callSt (X : Stand p l e R s m args below meth c T locs cells slots) (hx : p.tables.exec = Jvm.exec) (hZ : Z.Warmed39 s.vm) {own : String} {index : Nat} {y : MethodName} {bytes : ByteArray} {maxL : Nat} {ret : Option FieldType} {rm : Room} {as' : Array Value}
    (hown : s.vm.findClass own = some m.cls) (w1 : (Jvm.Cond.methodLink own index y).before a0 Z = true) (w2 : (Jvm.Cond.static y).before a0 Z = true) (w3 : (Jvm.Cond.initialized y.cls).before a0 Z = true) (w4 : (Jvm.Cond.code y bytes maxL ret).before a0 Z = true)
    (hy : y.cls ≠ "java/lang/invoke/MethodHandle" ∧ y.cls ≠ "java/lang/invoke/VarHandle") (hM : Ok l Z y bytes maxL ret rm as' h Q) (eT : T.heap = h) {W : Nat} (hf : rm.frames + 1 ≤ R.frames) (hl : W + (maxL + 11) + rm.locals ≤ R.locals) (hc : cells + rm.cells ≤ R.cells) (hs : slots + rm.slots ≤ R.slots)
    {g : JFrame} (hg : g.method = m) (hsize : g.locals.size = c.maxLocals) {argsL rest : List Value} (hlen : ∀ sig, parseMethodDescriptor y.desc = some sig → argsL.length = sig.parameters.length) (has : argsL.toArray = as')
    (hstack : g.stack = argsL.reverse ++ rest) (hW : 2 * g.monitorRoom + (rest.map fun v => v.category).sum ≤ W) (hd : decode c.code g.pc = .ok (.invokestatic index, 3)) :
    ∃ T' v L, Stand p l e R s m args below meth c T' (locs ++ L) (cells + rm.cells) (slots + rm.slots) ∧ Q v T'.heap L ∧ ∀ t, Steps p.tables e below (T'.setTop { g with pc := g.pc + 3, stack := v.toList ++ rest }) t → Steps p.tables e below (T.setTop g) t := by
  subst has
  obtain ⟨v, _, ⟨T1, L1, k1, n1⟩, -, X1, ⟨Lc, hQ, l1, y1, z1⟩, st⟩ := Jvm.LawKit.callS X hx (y := y) hown (mvT hZ w1) (mvT hZ w2) (mvT hZ w3) (mvT hZ w4) hy (backOf (W := W) (hM []) hZ w4 w3 hf hl) hg hsize hlen hstack hW hd (fun _ _ => ⟨rfl, eT, hc, hs⟩)
  dsimp only [Pt.U, Pt.locs, Pt.cells, Pt.slots] at X1 l1 y1 z1 st hQ
  subst l1 y1 z1
  exact ⟨T1, v, Lc, X1, hQ, st⟩
theorem callNew (X : Stand p l e R s m args below meth c T locs cells slots) (hx : p.tables.exec = Jvm.exec) (hZ : Z.Warmed39 s.vm) {own : String} {index : Nat} {y : MethodName} {bytes : ByteArray} {maxL : Nat} {rm : Room} {as' : Array Value} (hy1 : y.name = "<init>")
    (hown : s.vm.findClass own = some m.cls) (w1 : (Jvm.Cond.methodLink own index y).before a0 Z = true) (w2 : (Jvm.Cond.instanceMethod y).before a0 Z = true) (w3 : (Jvm.Cond.initialized y.cls).before a0 Z = true) (w4 : (Jvm.Cond.code y bytes maxL none).before a0 Z = true)
    (hy : y.cls ≠ "java/lang/invoke/MethodHandle" ∧ y.cls ≠ "java/lang/invoke/VarHandle") (hM : Ok l Z y bytes maxL none rm as' h Q) (eT : T.heap = h) {W : Nat} (hf : rm.frames + 1 ≤ R.frames) (hl : W + (maxL + 11) + rm.locals ≤ R.locals) (hc : cells + rm.cells ≤ R.cells) (hs : slots + rm.slots ≤ R.slots)
    {g : JFrame} (hg : g.method = m) (hsize : g.locals.size = c.maxLocals) {a : Addr} {argsL rest : List Value} (hlen : ∀ sig, parseMethodDescriptor y.desc = some sig → argsL.length = sig.parameters.length) (has : (.ref a :: argsL).toArray = as')
    (hstack : g.stack = argsL.reverse ++ .ref a :: rest) (hW : 2 * g.monitorRoom + (rest.map fun v => v.category).sum ≤ W) (hd : decode c.code g.pc = .ok (.invokespecial index, 3)) :
    ∃ T' v L, Stand p l e R s m args below meth c T' (locs ++ L) (cells + rm.cells) (slots + rm.slots) ∧ Q v T'.heap L ∧ ∀ t, Steps p.tables e below (T'.setTop { g with pc := g.pc + 3, stack := v.toList ++ rest }) t → Steps p.tables e below (T.setTop g) t := by
  subst has
  obtain ⟨v, _, ⟨T1, L1, k1, n1⟩, -, X1, ⟨Lc, hQ, l1, y1, z1⟩, st⟩ := X.specialBack hx (y := y) hy1 hown (mvT hZ w1) (mvT hZ w2) (mvT hZ w4) hy (backOf (W := W) (hM []) hZ w4 w3 hf hl) hg hsize (Steps.refl _) (a := a) hlen hstack hW hd (fun _ _ => ⟨rfl, eT, hc, hs⟩)
  dsimp only [Pt.U, Pt.locs, Pt.cells, Pt.slots] at X1 l1 y1 z1 st hQ
  subst l1 y1 z1
  exact ⟨T1, v, Lc, X1, hQ, fun t k => st.trans k⟩
theorem callVi (X : Stand p l e R s m args below meth c T locs cells slots) (hx : p.tables.exec = Jvm.exec) (hZ : Z.Warmed39 s.vm) {own C : String} {index : Nat} {y z : MethodName} {bytes : ByteArray} {maxL : Nat} {ret : Option FieldType} {rm : Room} {as' : Array Value}
    (hown : s.vm.findClass own = some m.cls) (w1 : (Jvm.Cond.methodLink own index y).before a0 Z = true) (w2 : (Jvm.Cond.declares y).before a0 Z = true) (nf : NotFace s y) (w3 : (Jvm.Cond.selects C y z).before a0 Z = true) (w4 : (Jvm.Cond.instanceMethod z).before a0 Z = true) (w5 : (Jvm.Cond.code z bytes maxL ret).before a0 Z = true) (w6 : (Jvm.Cond.initialized z.cls).before a0 Z = true)
    (hy : y.cls ≠ "java/lang/invoke/MethodHandle" ∧ y.cls ≠ "java/lang/invoke/VarHandle") (hM : Ok l Z z bytes maxL ret rm as' h Q) (eT : T.heap = h) {W : Nat} (hf : rm.frames + 1 ≤ R.frames) (hl : W + (maxL + 11) + rm.locals ≤ R.locals) (hc : cells + rm.cells ≤ R.cells) (hs : slots + rm.slots ≤ R.slots)
    {a : Addr} (E : Exa Z h a C) {g : JFrame} (hg : g.method = m) (hsize : g.locals.size = c.maxLocals) {argsL rest : List Value} (hlen : ∀ sig, parseMethodDescriptor y.desc = some sig → argsL.length = sig.parameters.length) (has : (.ref a :: argsL).toArray = as')
    (hstack : g.stack = argsL.reverse ++ .ref a :: rest) (hW : 2 * g.monitorRoom + (rest.map fun v => v.category).sum ≤ W) (hd : decode c.code g.pc = .ok (.invokevirtual index, 3)) :
    ∃ T' v L, Stand p l e R s m args below meth c T' (locs ++ L) (cells + rm.cells) (slots + rm.slots) ∧ Q v T'.heap L ∧ ∀ t, Steps p.tables e below (T'.setTop { g with pc := g.pc + 3, stack := v.toList ++ rest }) t → Steps p.tables e below (T.setTop g) t := by
  subst has
  obtain ⟨cq, kq, qa, qb, qc⟩ := isOf hZ eT E
  obtain ⟨v, _, ⟨T1, L1, k1, n1⟩, -, X1, ⟨Lc, hQ, l1, y1, z1⟩, st⟩ := X.virtualBack hx (y := y) (z := z) hown (mvT hZ w1) (mvT hZ w2) nf (mvT hZ w3) (mvT hZ w4) hy (backOf (W := W) (hM []) hZ w5 w6 hf hl) qa qc hg hsize (Steps.refl _) hlen hstack hW hd (fun _ _ => ⟨rfl, eT, hc, hs⟩)
  dsimp only [Pt.U, Pt.locs, Pt.cells, Pt.slots] at X1 l1 y1 z1 st hQ
  subst l1 y1 z1
  exact ⟨T1, v, Lc, X1, hQ, fun t k => st.trans k⟩
/-- a new object at the address a: a fresh name for the heap's end -/
theorem newOb (X : Stand p l e R s m args below meth c T locs cells slots) (hx : p.tables.exec = Jvm.exec) (hZ : Z.Warmed39 s.vm) {own C : String} {index n : Nat} (hown : s.vm.findClass own = some m.cls) (w : (Jvm.Cond.classLink own index C).before a0 Z = true) (wi : (Jvm.Cond.instantiable C n).before a0 Z = true) (wz : (Jvm.Cond.initialized C).before a0 Z = true) (eT : T.heap = h)
    {g : JFrame} (hg : g.method = m) (hd : decode c.code g.pc = .ok (.new index, 3)) (hc : cells + 1 ≤ R.cells) (hl : slots + n ≤ R.slots) :
    ∃ T' h' a, a = h.size ∧ Stand p l e R s m args below meth c T' locs (cells + 1) (slots + n) ∧ T'.heap = h' ∧ Ext h h' ∧ Exa Z h' a C ∧ (∀ {O nm d : String} {ty : FieldType}, Laid Z a0 C O nm d → parseFieldDescriptor d = some ty → Fld Z h' a O nm d (defaultValue ty)) ∧
      ∀ t, Steps p.tables e below (T'.setTop { g with pc := g.pc + 3, stack := .ref a :: g.stack }) t → Steps p.tables e below (T.setTop g) t := by
  obtain ⟨T2, h2, X2, e2, E2, A2, D2, -, st2⟩ := newO X hx hZ hown w wi wz eT hg hd hc hl
  exact ⟨T2, h2, h.size, rfl, X2, e2, E2, A2, D2, st2⟩
theorem Old0.keep {ws : List Addr} (X : Ext Z.heap h) (K : Keep h h' ws) (q : ∀ x ∈ ws, Z.heap.size ≤ x) : Ext Z.heap h' := (Old.keep (n0 := Z.heap.size) ⟨rfl, X⟩ K q).2
theorem Old0.wr {a : Addr} {sl : Nat} {v : Value} (X : Ext Z.heap h) (W : Wr h h' a sl v) (q : Z.heap.size ≤ a) : Ext Z.heap h' := (Old.wr (n0 := Z.heap.size) ⟨rfl, X⟩ W q).2
theorem Old0.ext (X : Ext Z.heap h) (E : Ext h h') : Ext Z.heap h' := (Old.ext (n0 := Z.heap.size) ⟨rfl, X⟩ E).2
theorem ext_rfl : Ext h h := ⟨Nat.le_refl _, fun _ _ q => q⟩
theorem eqI_v {first : State} {o : Option Outcome} {idx : List Nat} {a : Term} {k : Int32} (q : (Jvm.Cond.eq a (.int k)).value args first o s idx = some true) : a.eval args first o idx s = some (.int k) := by
  cases ha : a.eval args first o idx s with
  | none => simp [Jvm.Cond.value, ha] at q
  | some x => cases x <;> simp [Jvm.Cond.value, ha, Term.eval] at q ⊢; exact q
theorem eqJ_v {first : State} {o : Option Outcome} {idx : List Nat} {a : Term} {k : Int64} (q : (Jvm.Cond.eq a (.long k)).value args first o s idx = some true) : a.eval args first o idx s = some (.long k) := by
  cases ha : a.eval args first o idx s with
  | none => simp [Jvm.Cond.value, ha] at q
  | some x => cases x <;> simp [Jvm.Cond.value, ha, Term.eval] at q ⊢; exact q
theorem neI_v {first : State} {o : Option Outcome} {idx : List Nat} {a : Term} {x k : Int32} (ha : a.eval args first o idx s = some (.int x)) (q : (Jvm.Cond.not (.eq a (.int k))).value args first o s idx = some true) : ¬ x = k := by
  have q' := not_v q
  intro e
  subst e
  simp [Jvm.Cond.value, ha, Term.eval] at q'
theorem neR_v {first : State} {o : Option Outcome} {idx : List Nat} {a b : Term} {x y : Addr} (ha : a.eval args first o idx s = some (.ref x)) (hb : b.eval args first o idx s = some (.ref y)) (q : (Jvm.Cond.not (.eq a b)).value args first o s idx = some true) : ¬ x = y := by
  have q' := not_v q
  intro e
  subst e
  simp [Jvm.Cond.value, ha, hb] at q'
theorem eqR_v {first : State} {o : Option Outcome} {idx : List Nat} {a b : Term} {x : Addr} (hb : b.eval args first o idx s = some (.ref x)) (q : (Jvm.Cond.eq a b).value args first o s idx = some true) : a.eval args first o idx s = some (.ref x) := by
  cases ha : a.eval args first o idx s with
  | none => simp [Jvm.Cond.value, ha] at q
  | some x => cases x <;> simp [Jvm.Cond.value, ha, hb] at q ⊢; exact q
theorem callPr (X : Stand p l e R s m args below meth c T locs cells slots) (hx : p.tables.exec = Jvm.exec) (hZ : Z.Warmed39 s.vm) {own : String} {index : Nat} {y : MethodName} {bytes : ByteArray} {maxL : Nat} {ret : Option FieldType} {rm : Room} {as' : Array Value}
    (hown : s.vm.findClass own = some m.cls) (w1 : (Jvm.Cond.methodLink own index y).before a0 Z = true) (w2 : (Jvm.Cond.instanceMethod y).before a0 Z = true) (w3 : (Jvm.Cond.selects y.cls y y).before a0 Z = true) (w4 : (Jvm.Cond.privateMethod y).before a0 Z = true) (w5 : (Jvm.Cond.initialized y.cls).before a0 Z = true) (w6 : (Jvm.Cond.code y bytes maxL ret).before a0 Z = true)
    (hy : y.cls ≠ "java/lang/invoke/MethodHandle" ∧ y.cls ≠ "java/lang/invoke/VarHandle") (hM : Ok l Z y bytes maxL ret rm as' h Q) (eT : T.heap = h) {W : Nat} (hf : rm.frames + 1 ≤ R.frames) (hl : W + (maxL + 11) + rm.locals ≤ R.locals) (hc : cells + rm.cells ≤ R.cells) (hs : slots + rm.slots ≤ R.slots)
    {C : String} {a : Addr} (E : Exa Z h a C) {g : JFrame} (hg : g.method = m) (hsize : g.locals.size = c.maxLocals) {argsL rest : List Value} (hlen : ∀ sig, parseMethodDescriptor y.desc = some sig → argsL.length = sig.parameters.length) (has : (.ref a :: argsL).toArray = as')
    (hstack : g.stack = argsL.reverse ++ .ref a :: rest) (hW : 2 * g.monitorRoom + (rest.map fun v => v.category).sum ≤ W) (hd : decode c.code g.pc = .ok (.invokevirtual index, 3)) :
    ∃ T' v L, Stand p l e R s m args below meth c T' (locs ++ L) (cells + rm.cells) (slots + rm.slots) ∧ Q v T'.heap L ∧ ∀ t, Steps p.tables e below (T'.setTop { g with pc := g.pc + 3, stack := v.toList ++ rest }) t → Steps p.tables e below (T.setTop g) t := by
  subst has
  obtain ⟨cq, q1, q2⟩ := E.cell
  obtain ⟨v, _, ⟨T1, L1, k1, n1⟩, -, X1, ⟨Lc, hQ, l1, y1, z1⟩, st⟩ := X.privateBack hx (y := y) hown (mvT hZ w1) (mvT hZ w2) (mvT hZ w3) (Cond.privateMethod_at (mvP hZ w4 (args := #[]))) (mvT hZ w6) hy (backOf (W := W) (hM []) hZ w6 w5 hf hl) hg hsize (Steps.refl _) (a := a) (by rw [eT]; exact q1) q2 hlen hstack hW hd (fun _ _ => ⟨rfl, eT, hc, hs⟩)
  dsimp only [Pt.U, Pt.locs, Pt.cells, Pt.slots] at X1 l1 y1 z1 st hQ
  subst l1 y1 z1
  exact ⟨T1, v, Lc, X1, hQ, fun t k => st.trans k⟩
theorem callIf (X : Stand p l e R s m args below meth c T locs cells slots) (hx : p.tables.exec = Jvm.exec) (hZ : Z.Warmed39 s.vm) {own C : String} {index count : Nat} {xi y : MethodName} {bytes : ByteArray} {maxL : Nat} {ret : Option FieldType} {rm : Room} {as' : Array Value}
    (hown : s.vm.findClass own = some m.cls) (w1 : (Jvm.Cond.methodLink own index xi).before a0 Z = true) (w2 : (Jvm.Cond.declares xi).before a0 Z = true) (w3 : (Jvm.Cond.interfaceMethod xi.cls xi.cls xi.name xi.desc).before args s = true) (w4 : (Jvm.Cond.selects C xi y).before a0 Z = true) (w5 : (Jvm.Cond.instanceMethod y).before a0 Z = true) (w6 : (Jvm.Cond.publicMethod y).before a0 Z = true) (w7 : (Jvm.Cond.unhidden C xi.name xi.desc).before a0 Z = true) (w8 : (Jvm.Cond.castable C xi.cls).before a0 Z = true) (w9 : (Jvm.Cond.code y bytes maxL ret).before a0 Z = true) (w10 : (Jvm.Cond.initialized y.cls).before a0 Z = true)
    (hy : xi.cls ≠ "java/lang/invoke/MethodHandle" ∧ xi.cls ≠ "java/lang/invoke/VarHandle") (hM : Ok l Z y bytes maxL ret rm as' h Q) (eT : T.heap = h) {W : Nat} (hf : rm.frames + 1 ≤ R.frames) (hl : W + (maxL + 11) + rm.locals ≤ R.locals) (hc : cells + rm.cells ≤ R.cells) (hs : slots + rm.slots ≤ R.slots)
    {a : Addr} (E : Exa Z h a C) {g : JFrame} (hg : g.method = m) (hsize : g.locals.size = c.maxLocals) {argsL rest : List Value} (hlen : ∀ sig, parseMethodDescriptor xi.desc = some sig → argsL.length = sig.parameters.length) (has : (.ref a :: argsL).toArray = as')
    (hstack : g.stack = argsL.reverse ++ .ref a :: rest) (hW : 2 * g.monitorRoom + (rest.map fun v => v.category).sum ≤ W) (hd : decode c.code g.pc = .ok (.invokeinterface index count, 5)) :
    ∃ T' v L, Stand p l e R s m args below meth c T' (locs ++ L) (cells + rm.cells) (slots + rm.slots) ∧ Q v T'.heap L ∧ ∀ t, Steps p.tables e below (T'.setTop { g with pc := g.pc + 5, stack := v.toList ++ rest }) t → Steps p.tables e below (T.setTop g) t := by
  subst has
  obtain ⟨cq, kq, qa, qb, qc⟩ := isOf hZ eT E
  obtain ⟨v, _, ⟨T1, L1, k1, n1⟩, -, X1, ⟨Lc, hQ, l1, y1, z1⟩, st⟩ := X.interfaceBack hx (xi := xi) (y := y) hown (mvT hZ w1) (mvT hZ w2) w3 (mvT hZ w4) (mvT hZ w5) (mvT hZ w6) (mvT hZ w7) (mvT hZ w8) hy (backOf (W := W) (hM []) hZ w9 w10 hf hl) qa qb qc hg hsize (Steps.refl _) hlen hstack hW hd (fun _ _ => ⟨rfl, eT, hc, hs⟩)
  dsimp only [Pt.U, Pt.locs, Pt.cells, Pt.slots] at X1 l1 y1 z1 st hQ
  subst l1 y1 z1
  exact ⟨T1, v, Lc, X1, hQ, fun t k => st.trans k⟩
theorem newAr (X : Stand p l e R s m args below meth c T locs cells slots) (hx : p.tables.exec = Jvm.exec) (hZ : Z.Warmed39 s.vm) {aty : ArrayType} (w : (Jvm.Cond.arrayClass (newarray.typeOf aty)).before a0 Z = true) (eT : T.heap = h) {g : JFrame} (hg : g.method = m) (hd : decode c.code g.pc = .ok (.newarray aty, 2)) {n : Int32} {rest : List Value} (hs : g.stack = .int n :: rest)
    (hn : ¬ n < 0) {cap : Nat} (hcap : n.toNatClampNeg ≤ cap) (hb : cap * 8 ≤ 536870912) (hc : cells + 1 ≤ R.cells) (hl : slots + cap ≤ R.slots) {ad : String} (had : "[" ++ (newarray.typeOf aty).toString = ad) :
    ∃ T' h' k a, a = h.size ∧ Stand p l e R s m args below meth c T' locs (cells + 1) (slots + cap) ∧ T'.heap = h' ∧ Ext h h' ∧ Arv Z h' a k (newarray.typeOf aty) n [] (defaultValue (newarray.typeOf aty)) ∧ Exa Z h' a ad ∧
      ∀ t, Steps p.tables e below (T'.setTop { g with pc := g.pc + 2, stack := .ref a :: rest }) t → Steps p.tables e below (T.setTop g) t := by
  obtain ⟨T2, h2, k, X2, e2, E2, A2, B2, st2⟩ := newPE X hx hZ w eT hg hd hs hn hcap hb hc hl had
  exact ⟨T2, h2, k, h.size, rfl, X2, e2, E2, Arv.new A2 hn, B2, st2⟩
theorem newRr (X : Stand p l e R s m args below meth c T locs cells slots) (hx : p.tables.exec = Jvm.exec) (hZ : Z.Warmed39 s.vm) {own C : String} {index : Nat} (hown : s.vm.findClass own = some m.cls) (w1 : (Jvm.Cond.classLink own index C).before a0 Z = true) (w2 : (Jvm.Cond.arrayOver (.object C)).before a0 Z = true)
    (eT : T.heap = h) {g : JFrame} (hg : g.method = m) (hd : decode c.code g.pc = .ok (.anewarray index, 3)) {n : Int32} {rest : List Value} (hs : g.stack = .int n :: rest) (hn : ¬ n < 0) {cap : Nat} (hcap : n.toNatClampNeg ≤ cap) (hb : cap * 8 ≤ 536870912) (hc : cells + 1 ≤ R.cells) (hl : slots + cap ≤ R.slots) {ad : String} (had : "[" ++ (FieldType.object C).toString = ad) :
    ∃ T' h' k a, a = h.size ∧ Stand p l e R s m args below meth c T' locs (cells + 1) (slots + cap) ∧ T'.heap = h' ∧ Ext h h' ∧ Arv Z h' a k (.object C) n [] .null ∧ Exa Z h' a ad ∧ Ovr Z k C ∧
      ∀ t, Steps p.tables e below (T'.setTop { g with pc := g.pc + 3, stack := .ref a :: rest }) t → Steps p.tables e below (T.setTop g) t := by
  obtain ⟨T2, h2, k, X2, e2, E2, A2, B2, O2, st2⟩ := newRE X hx hZ hown w1 w2 eT hg hd hs hn hcap hb hc hl had
  exact ⟨T2, h2, k, h.size, rfl, X2, e2, E2, Arv.new A2 hn, B2, O2, st2⟩
theorem own_len {t : Term} {a : Addr} {cl : Cell} {ty : FieldType} {k : Int32} (ev : t.eval args s none [] s = some (.ref a)) (A : Arr s s.heap a cl ty) (q : (Term.length t).eval args s none [] s = some (.int k)) : cl.slots.size < 2 ^ 31 ∧ cl.slots.size.toInt32 = k := by
  have ha := Arr.fin (U := s) (Vm.Alike.refl _) A
  simp only [Term.eval, ev] at q
  simp at q
  rw [ha] at q
  simp only [Option.bind_some] at q
  split at q
  · rename_i hlt
    simp only [Option.some.injEq, Value.int.injEq] at q
    exact ⟨hlt, q⟩
  · cases q
theorem own_el {t : Term} {a : Addr} {cl : Cell} {ty : FieldType} {j : Int32} {v : Value} (ev : t.eval args s none [] s = some (.ref a)) (A : Arr s s.heap a cl ty) (q : (Term.elem t (.int j)).eval args s none [] s = some v) : cl.slots[j.toNatClampNeg]? = some v :=
  (elem_in q ev rfl A.1).2
theorem cloneV (X : Stand p l e R s m args below meth c T locs cells slots) (hx : p.tables.exec = Jvm.exec) (hZ : Z.Warmed39 s.vm) {own ad : String} {index : Nat} (hown : s.vm.findClass own = some m.cls)
    (w1 : (Jvm.Cond.methodLink own index ⟨ad, "clone", "()Ljava/lang/Object;"⟩).before a0 Z = true) (w2 : (Jvm.Cond.sameMethod ad "java/lang/Object" "clone" "()Ljava/lang/Object;").before a0 Z = true) (w3 : (Jvm.Cond.native ⟨"java/lang/Object", "clone", "()Ljava/lang/Object;"⟩).before a0 Z = true)
    (w4 : (Jvm.Cond.instanceMethod ⟨"java/lang/Object", "clone", "()Ljava/lang/Object;"⟩).before a0 Z = true) (w5 : (Jvm.Cond.selects ad ⟨ad, "clone", "()Ljava/lang/Object;"⟩ ⟨"java/lang/Object", "clone", "()Ljava/lang/Object;"⟩).before a0 Z = true) (w6 : (Jvm.Cond.castable ad "java/lang/Cloneable").before a0 Z = true)
    (eT : T.heap = h) {b : Addr} {k : ClassId} {ty : FieldType} {z : Int32} {vs : List Value} {dv : Value} (F : Arv Z h b k ty z vs dv) (E : Exa Z h b ad) {g : JFrame} (hg : g.method = m) (hsize : g.locals.size = c.maxLocals) {rest : List Value} (hst : g.stack = .ref b :: rest) (hd : decode c.code g.pc = .ok (.invokevirtual index, 3))
    (hf : 1 ≤ R.frames) {W cap : Nat} (hW : 2 * g.monitorRoom + (rest.map fun v => v.category).sum ≤ W) (hl : W + 14 ≤ R.locals) (hcap : z.toNatClampNeg ≤ cap) (hc : cells + 1 ≤ R.cells) (hsl : slots + cap ≤ R.slots) :
    ∃ T' h' a, a = h.size ∧ Stand p l e R s m args below meth c T' locs (cells + 1) (slots + cap) ∧ T'.heap = h' ∧ Ext h h' ∧ Arv Z h' a k ty z vs dv ∧ Exa Z h' a ad ∧
      ∀ t, Steps p.tables e below (T'.setTop { g with pc := g.pc + 3, stack := .ref a :: rest }) t → Steps p.tables e below (T.setTop g) t := by
  obtain ⟨T2, h2, X2, e2, E2, A2, B2, st2⟩ := cloneH X hx hZ hown w1 w2 w3 w4 w5 w6 eT F.arh E hg hsize hst hd hf hW hl hcap hc hsl
  exact ⟨T2, h2, h.size, rfl, X2, e2, E2, A2, B2, st2⟩
end OwnKit
theorem nf_mate {s : State} {args : Array Value} {C : String} {y y' : MethodName} (hsel : (Jvm.Cond.selects C y' y').before args s = true) (hc : y'.cls = y.cls) : NotFace s y := fun r0 h0 => by
  obtain ⟨c2, r2, m2, q1, q2, q3, q4, kP, hkP, hkPi⟩ := Cond.selects_spec hsel
  have h1 := findClass_of_methodNamed h0
  have h2 := findClass_of_methodNamed q3
  rw [hc, h1] at h2
  exact ⟨kP, (Option.some.inj h2) ▸ hkP, hkPi⟩
/-! ## own kit, string constants: the tables may have been warmed by an interned text -/
section OwnKitS
variable {p : Program} {l : Launch} {e : Env} {R : Room} {s : State} {m : MethodId} {args : Array Value} {below : List Frame} {meth : Method} {c : Code} {T T' : State} {locs : List Loc} {cells slots : Nat} {Q : Option Value → Heap → List Loc → Prop} {f f' : JFrame} {Z : State} {a0 : Array Value} {h h' : Heap} {EL : List (String × Nat)} {vm0 : Vm} {k0 : Nat}
def GoS (p : Program) (e : Env) (s : State) (below : List Frame) (R : Room) (Z : State) (EL : List (String × Nat)) (Q : Option Value → Heap → List Loc → Prop) (T : State) (f : JFrame) : Prop :=
  ∃ s₂ o, Steps p.tables e below (T.setTop f) s₂ ∧ s₂.status = .running ∧ Ended s₂ below o ∧ ∃ v L, o = .returned v ∧ Q v s₂.heap L ∧ CHr Z EL s.vm s.heap s₂.vm s₂.heap ∧ ReturnedEndW s o s₂ L R.cells R.slots
theorem GoS.of (k : ∀ t, Steps p.tables e below (T'.setTop f') t → Steps p.tables e below (T.setTop f) t) (G : GoS p e s below R Z EL Q T' f') : GoS p e s below R Z EL Q T f := by
  obtain ⟨s2, o, h1, h2⟩ := G
  exact ⟨s2, o, k _ h1, h2⟩
theorem GoS.cast (q : f = f') (G : GoS p e s below R Z EL Q T f') : GoS p e s below R Z EL Q T f := q ▸ G
theorem GoS.fin (X : Stand p l e R (s.setVm vm0) m args below meth c T locs cells slots) (hlk : meth.locks = false) (hS : s.Since vm0 k0) (hk : k0 ≤ h.size) (hZ : Z.Warmed39 vm0) (hEL : EW Z a0 EL) (C : CHr Z EL s.vm s.heap vm0 h) (eT : T.heap = h) {v : Option Value} (hv : meth.sig.returnType = none → v = none) (hc : cells ≤ R.cells) (hs : slots ≤ R.slots) (hq : Q v T.heap locs)
    (step : ∀ fs, (∀ (f : JFrame) (acts : List Action), f.method = m → f.locked = none → f.entered = [] → (doReturn e (T.setTop f) acts v).1 = T.setFrames fs) → Steps p.tables e below (T.setTop f) (T.setFrames fs)) : GoS p e s below R Z EL Q T f := by
  subst eT
  obtain ⟨fs, hr, hrun, hended, hW⟩ := X.leaveW hS hk hv hlk
  have A := CHv.at X hZ hEL C.1
  exact ⟨_, _, step fs hr, hrun, hended, v, locs, rfl, hq, C.trans A, hW.1, hW.2.1, hW.2.2.1, hW.2.2.2.mono hc hs⟩
theorem GoS.retO (X : Stand p l e R (s.setVm vm0) m args below meth c T locs cells slots) (hx : p.tables.exec = Jvm.exec) (hlk : meth.locks = false) (hS : s.Since vm0 k0) (hk : k0 ≤ h.size) (hZ : Z.Warmed39 vm0) (hEL : EW Z a0 EL) (C : CHr Z EL s.vm s.heap vm0 h) (eT : T.heap = h) {pc : Nat} {Ls : Array Slot} {w : Value} {t : FieldType} {i : Instr} {rest : List Value} (hret : meth.sig.returnType = some t) (hn : narrow t w = w)
    (hi : (i = .ireturn ∧ (t = .int ∨ t = .boolean ∨ t = .byte ∨ t = .char ∨ t = .short) ∧ ∃ z, w = .int z) ∨ (i = .lreturn ∧ t = .long ∧ ∃ z, w = .long z) ∨ (i = .dreturn ∧ t = .double ∧ ∃ z, w = .double z) ∨ (i = .freturn ∧ t = .float ∧ ∃ z, w = .float z) ∨ (i = .areturn ∧ t.isReference = true ∧ w.isRef = true))
    (hd : decode c.code pc = .ok (i, 1)) (hc : cells ≤ R.cells) (hs : slots ≤ R.slots) (hq : Q (some w) T.heap locs) : GoS p e s below R Z EL Q T (mkF m pc Ls (w :: rest)) :=
  GoS.fin X hlk hS hk hZ hEL C eT (fun h => by rw [hret] at h; cases h) hc hs hq (fun fs hr => retOut X hx hret hn hi hd hr)
theorem GoS.retI (X : Stand p l e R (s.setVm vm0) m args below meth c T locs cells slots) (hx : p.tables.exec = Jvm.exec) (hlk : meth.locks = false) (hS : s.Since vm0 k0) (hk : k0 ≤ h.size) (hZ : Z.Warmed39 vm0) (hEL : EW Z a0 EL) (C : CHr Z EL s.vm s.heap vm0 h) (eT : T.heap = h) (hret : meth.sig.returnType = some .int) {pc : Nat} {Ls : Array Slot} {z : Int32} {rest : List Value}
    (hd : decode c.code pc = .ok (.ireturn, 1)) (hc : cells ≤ R.cells) (hs : slots ≤ R.slots) (hq : Q (some (.int z)) T.heap locs) : GoS p e s below R Z EL Q T (mkF m pc Ls (.int z :: rest)) :=
  GoS.retO X hx hlk hS hk hZ hEL C eT hret rfl (Or.inl ⟨rfl, Or.inl rfl, _, rfl⟩) hd hc hs hq
theorem GoS.retA (X : Stand p l e R (s.setVm vm0) m args below meth c T locs cells slots) (hx : p.tables.exec = Jvm.exec) (hlk : meth.locks = false) (hS : s.Since vm0 k0) (hk : k0 ≤ h.size) (hZ : Z.Warmed39 vm0) (hEL : EW Z a0 EL) (C : CHr Z EL s.vm s.heap vm0 h) (eT : T.heap = h) {t : FieldType} (hret : meth.sig.returnType = some t) (ht : t.isReference = true) {pc : Nat} {Ls : Array Slot} {w : Value} {rest : List Value}
    (hw : w.isRef = true) (hd : decode c.code pc = .ok (.areturn, 1)) (hc : cells ≤ R.cells) (hs : slots ≤ R.slots) (hq : Q (some w) T.heap locs) : GoS p e s below R Z EL Q T (mkF m pc Ls (w :: rest)) :=
  GoS.retO X hx hlk hS hk hZ hEL C eT hret (by cases t <;> first | (cases ht; done) | rfl) (Or.inr (Or.inr (Or.inr (Or.inr ⟨rfl, ht, hw⟩)))) hd hc hs hq
theorem GoS.retB (X : Stand p l e R (s.setVm vm0) m args below meth c T locs cells slots) (hx : p.tables.exec = Jvm.exec) (hlk : meth.locks = false) (hS : s.Since vm0 k0) (hk : k0 ≤ h.size) (hZ : Z.Warmed39 vm0) (hEL : EW Z a0 EL) (C : CHr Z EL s.vm s.heap vm0 h) (eT : T.heap = h) {t : FieldType} (hret : meth.sig.returnType = some t) (ht : t = .boolean ∨ t = .byte ∨ t = .char ∨ t = .short) {pc : Nat} {Ls : Array Slot} {z : Int32} {rest : List Value}
    (hd : decode c.code pc = .ok (.ireturn, 1)) (hc : cells ≤ R.cells) (hs : slots ≤ R.slots) {z' : Int32} (hz : nar t z = z') (hq : Q (some (.int z')) T.heap locs) : GoS p e s below R Z EL Q T (mkF m pc Ls (.int z :: rest)) := by
  subst hz
  exact GoS.fin X hlk hS hk hZ hEL C eT (fun h => by rw [hret] at h; cases h) hc hs hq (fun fs hr => retN X hx hret ht hd hr)
theorem GoS.retV (X : Stand p l e R (s.setVm vm0) m args below meth c T locs cells slots) (hx : p.tables.exec = Jvm.exec) (hlk : meth.locks = false) (hS : s.Since vm0 k0) (hk : k0 ≤ h.size) (hZ : Z.Warmed39 vm0) (hEL : EW Z a0 EL) (C : CHr Z EL s.vm s.heap vm0 h) (eT : T.heap = h) (hret : meth.sig.returnType = none) {pc : Nat} {Ls : Array Slot}
    (hd : decode c.code pc = .ok (.return_, 1)) (hc : cells ≤ R.cells) (hs : slots ≤ R.slots) (hq : Q none T.heap locs) : GoS p e s below R Z EL Q T (mkF m pc Ls []) :=
  GoS.fin X hlk hS hk hZ hEL C eT (fun _ => rfl) hc hs hq (fun fs hr => X.returnOut hx hret hd hr)
def OkS (l : Launch) (Z : State) (EL : List (String × Nat)) (y : MethodName) (bytes : ByteArray) (maxL : Nat) (ret : Option FieldType) (rm : Room) (as' : Array Value) (h : Heap) (Q : Option Value → Heap → List Loc → Prop) : Prop :=
  ∀ ws : List Jvm.Cond, MetFree l y (head1 (Jvm.Cond.code y bytes maxL ret :: ws) rm) (fun a U => a = as' ∧ Z.Warmed39 U.vm ∧ U.heap = h ∧ CHv Z EL U.vm h) (fun _ _ _ _ _ => True) (fun _ U o U' => ∃ v L, o = .returned v ∧ Q v U'.heap L ∧ CHr Z EL U.vm U.heap U'.vm U'.heap ∧ ReturnedEndW U o U' L rm.cells rm.slots)
theorem OkS.mk {y : MethodName} {bytes : ByteArray} {maxL : Nat} {ret : Option FieldType} {rm : Room} {as' : Array Value} (hn : plainFor y = true)
    (k : ∀ p e s m below meth c s₁, p.tables.exec = Jvm.exec → c.code = bytes → c.maxLocals = maxL → s.vm.findClass y.cls = some m.cls → meth.name = y.name → meth.sig.returnType = ret → meth.locks = false → Z.Warmed39 s.vm → s₁.heap = h → CHr Z EL s.vm s.heap s.vm h → s.Since s.vm 0 → Stand p l e rm (s.setVm s.vm) m as' below meth c s₁ [] 0 0 → GoS p e s below rm Z EL Q s₁ (entryFrame m as' maxL)) :
    OkS l Z EL y bytes maxL ret rm as' h Q := by
  intro ws
  refine MetFree.of_bodySF hn hisR ?_
  intro p e s m args below meth c s₁ Bd hml0 hP hK
  obtain ⟨rfl, hZ, hh, hC⟩ := hP
  exact k p e s m below meth c s₁ Bd.exec Bd.bytes hml0 (findClass_of_methodNamed Bd.named) (name_of_methodNamed Bd.named Bd.method).1 Bd.returns Bd.notSynchronized hZ (by rw [← hh, Bd.state]; rfl) (by rw [hh]; exact CHr.refl hC) ((State.WarmedH.refl s).since 0) (Stand.of_body Bd)
theorem callStS (X : Stand p l e R (s.setVm vm0) m args below meth c T locs cells slots) (hx : p.tables.exec = Jvm.exec) (hZ : Z.Warmed39 vm0) {own : String} {index : Nat} {y : MethodName} {bytes : ByteArray} {maxL : Nat} {ret : Option FieldType} {rm : Room} {as' : Array Value}
    (hS : s.Since vm0 k0) (hk : k0 ≤ h.size) (hEL : EW Z a0 EL) (H : CHv Z EL vm0 h)
    (hown : vm0.findClass own = some m.cls) (w1 : (Jvm.Cond.methodLink own index y).before a0 Z = true) (w2 : (Jvm.Cond.static y).before a0 Z = true) (w3 : (Jvm.Cond.initialized y.cls).before a0 Z = true) (w4 : (Jvm.Cond.code y bytes maxL ret).before a0 Z = true)
    (hy : y.cls ≠ "java/lang/invoke/MethodHandle" ∧ y.cls ≠ "java/lang/invoke/VarHandle") (hM : OkS l Z EL y bytes maxL ret rm as' h Q) (eT : T.heap = h) {W : Nat} (hf : rm.frames + 1 ≤ R.frames) (hl : W + (maxL + 11) + rm.locals ≤ R.locals) (hc : cells + rm.cells ≤ R.cells) (hs : slots + rm.slots ≤ R.slots)
    {g : JFrame} (hg : g.method = m) (hsize : g.locals.size = c.maxLocals) {argsL rest : List Value} (hlen : ∀ sig, parseMethodDescriptor y.desc = some sig → argsL.length = sig.parameters.length) (has : argsL.toArray = as')
    (hstack : g.stack = argsL.reverse ++ rest) (hW : 2 * g.monitorRoom + (rest.map fun v => v.category).sum ≤ W) (hd : decode c.code g.pc = .ok (.invokestatic index, 3)) :
    ∃ T' v L, Stand p l e R (s.setVm T'.vm) m args below meth c T' (locs ++ L) (cells + rm.cells) (slots + rm.slots) ∧ Q v T'.heap L ∧ s.Since T'.vm T'.heap.size ∧ h.size ≤ T'.heap.size ∧ Z.Warmed39 T'.vm ∧ T'.vm.findClass own = some m.cls ∧ CHr Z EL vm0 h T'.vm T'.heap ∧ ∀ t, Steps p.tables e below (T'.setTop { g with pc := g.pc + 3, stack := v.toList ++ rest }) t → Steps p.tables e below (T.setTop g) t := by
  subst has
  subst eT
  obtain ⟨v, _, ⟨T1, L1, k1, n1⟩, -, X1, S1, g1, ⟨Lc, hQ, l1, y1, z1, c1⟩, st⟩ := callSS X hx (y := y) hown (mvT (s := s.setVm vm0) hZ w1) (mvT (s := s.setVm vm0) hZ w2) (mvT (s := s.setVm vm0) hZ w3) (mvT (s := s.setVm vm0) hZ w4) hy (backOfSH (W := W) (hM []) hZ w4 w3 hf hl hEL H) hg hsize hlen hstack hW hd (fun _ _ => ⟨rfl, rfl, hc, hs⟩)
  dsimp only [Pt.U, Pt.locs, Pt.cells, Pt.slots] at X1 l1 y1 z1 st hQ S1 g1 c1
  subst l1 y1 z1
  exact ⟨T1, v, Lc, X1, hQ, foldS hS hk S1 g1, g1, State.Warmed39.trans (t := s.setVm vm0) hZ S1.1, by rw [S1.1.alike.findClass]; exact hown, c1, fun t k => st.trans k⟩
theorem callNewS (X : Stand p l e R (s.setVm vm0) m args below meth c T locs cells slots) (hx : p.tables.exec = Jvm.exec) (hZ : Z.Warmed39 vm0) {own : String} {index : Nat} {y : MethodName} {bytes : ByteArray} {maxL : Nat} {rm : Room} {as' : Array Value} (hy1 : y.name = "<init>")
    (hS : s.Since vm0 k0) (hk : k0 ≤ h.size) (hEL : EW Z a0 EL) (H : CHv Z EL vm0 h)
    (hown : vm0.findClass own = some m.cls) (w1 : (Jvm.Cond.methodLink own index y).before a0 Z = true) (w2 : (Jvm.Cond.instanceMethod y).before a0 Z = true) (w3 : (Jvm.Cond.initialized y.cls).before a0 Z = true) (w4 : (Jvm.Cond.code y bytes maxL none).before a0 Z = true)
    (hy : y.cls ≠ "java/lang/invoke/MethodHandle" ∧ y.cls ≠ "java/lang/invoke/VarHandle") (hM : OkS l Z EL y bytes maxL none rm as' h Q) (eT : T.heap = h) {W : Nat} (hf : rm.frames + 1 ≤ R.frames) (hl : W + (maxL + 11) + rm.locals ≤ R.locals) (hc : cells + rm.cells ≤ R.cells) (hs : slots + rm.slots ≤ R.slots)
    {g : JFrame} (hg : g.method = m) (hsize : g.locals.size = c.maxLocals) {a : Addr} {argsL rest : List Value} (hlen : ∀ sig, parseMethodDescriptor y.desc = some sig → argsL.length = sig.parameters.length) (has : (.ref a :: argsL).toArray = as')
    (hstack : g.stack = argsL.reverse ++ .ref a :: rest) (hW : 2 * g.monitorRoom + (rest.map fun v => v.category).sum ≤ W) (hd : decode c.code g.pc = .ok (.invokespecial index, 3)) :
    ∃ T' v L, Stand p l e R (s.setVm T'.vm) m args below meth c T' (locs ++ L) (cells + rm.cells) (slots + rm.slots) ∧ Q v T'.heap L ∧ s.Since T'.vm T'.heap.size ∧ h.size ≤ T'.heap.size ∧ Z.Warmed39 T'.vm ∧ T'.vm.findClass own = some m.cls ∧ CHr Z EL vm0 h T'.vm T'.heap ∧ ∀ t, Steps p.tables e below (T'.setTop { g with pc := g.pc + 3, stack := v.toList ++ rest }) t → Steps p.tables e below (T.setTop g) t := by
  subst has
  subst eT
  obtain ⟨v, _, ⟨T1, L1, k1, n1⟩, -, X1, S1, g1, ⟨Lc, hQ, l1, y1, z1, c1⟩, st⟩ := X.specialBackS hx (y := y) hy1 hown (mvT (s := s.setVm vm0) hZ w1) (mvT (s := s.setVm vm0) hZ w2) (mvT (s := s.setVm vm0) hZ w4) hy (backOfSH (W := W) (hM []) hZ w4 w3 hf hl hEL H) hg hsize (Steps.refl _) (a := a) hlen hstack hW hd (fun _ _ => ⟨rfl, rfl, hc, hs⟩)
  dsimp only [Pt.U, Pt.locs, Pt.cells, Pt.slots] at X1 l1 y1 z1 st hQ S1 g1 c1
  subst l1 y1 z1
  exact ⟨T1, v, Lc, X1, hQ, foldS hS hk S1 g1, g1, State.Warmed39.trans (t := s.setVm vm0) hZ S1.1, by rw [S1.1.alike.findClass]; exact hown, c1, fun t k => st.trans k⟩
theorem callViS (X : Stand p l e R (s.setVm vm0) m args below meth c T locs cells slots) (hx : p.tables.exec = Jvm.exec) (hZ : Z.Warmed39 vm0) {own C : String} {index : Nat} {y z : MethodName} {bytes : ByteArray} {maxL : Nat} {ret : Option FieldType} {rm : Room} {as' : Array Value}
    (hS : s.Since vm0 k0) (hk : k0 ≤ h.size) (hEL : EW Z a0 EL) (H : CHv Z EL vm0 h)
    (hown : vm0.findClass own = some m.cls) (w1 : (Jvm.Cond.methodLink own index y).before a0 Z = true) (w2 : (Jvm.Cond.declares y).before a0 Z = true) (nf : NotFace (s.setVm vm0) y) (w3 : (Jvm.Cond.selects C y z).before a0 Z = true) (w4 : (Jvm.Cond.instanceMethod z).before a0 Z = true) (w5 : (Jvm.Cond.code z bytes maxL ret).before a0 Z = true) (w6 : (Jvm.Cond.initialized z.cls).before a0 Z = true)
    (hy : y.cls ≠ "java/lang/invoke/MethodHandle" ∧ y.cls ≠ "java/lang/invoke/VarHandle") (hM : OkS l Z EL z bytes maxL ret rm as' h Q) (eT : T.heap = h) {W : Nat} (hf : rm.frames + 1 ≤ R.frames) (hl : W + (maxL + 11) + rm.locals ≤ R.locals) (hc : cells + rm.cells ≤ R.cells) (hs : slots + rm.slots ≤ R.slots)
    {a : Addr} (E : Exa Z h a C) {g : JFrame} (hg : g.method = m) (hsize : g.locals.size = c.maxLocals) {argsL rest : List Value} (hlen : ∀ sig, parseMethodDescriptor y.desc = some sig → argsL.length = sig.parameters.length) (has : (.ref a :: argsL).toArray = as')
    (hstack : g.stack = argsL.reverse ++ .ref a :: rest) (hW : 2 * g.monitorRoom + (rest.map fun v => v.category).sum ≤ W) (hd : decode c.code g.pc = .ok (.invokevirtual index, 3)) :
    ∃ T' v L, Stand p l e R (s.setVm T'.vm) m args below meth c T' (locs ++ L) (cells + rm.cells) (slots + rm.slots) ∧ Q v T'.heap L ∧ s.Since T'.vm T'.heap.size ∧ h.size ≤ T'.heap.size ∧ Z.Warmed39 T'.vm ∧ T'.vm.findClass own = some m.cls ∧ CHr Z EL vm0 h T'.vm T'.heap ∧ ∀ t, Steps p.tables e below (T'.setTop { g with pc := g.pc + 3, stack := v.toList ++ rest }) t → Steps p.tables e below (T.setTop g) t := by
  subst has
  subst eT
  obtain ⟨cq, kq, qa, qb, qc⟩ := isOf (s := s.setVm vm0) hZ rfl E
  obtain ⟨v, _, ⟨T1, L1, k1, n1⟩, -, X1, S1, g1, ⟨Lc, hQ, l1, y1, z1, c1⟩, st⟩ := X.virtualBackS hx (y := y) (z := z) hown (mvT (s := s.setVm vm0) hZ w1) (mvT (s := s.setVm vm0) hZ w2) nf (mvT (s := s.setVm vm0) hZ w3) (mvT (s := s.setVm vm0) hZ w4) hy (backOfSH (W := W) (hM []) hZ w5 w6 hf hl hEL H) qa qc hg hsize (Steps.refl _) hlen hstack hW hd (fun _ _ => ⟨rfl, rfl, hc, hs⟩)
  dsimp only [Pt.U, Pt.locs, Pt.cells, Pt.slots] at X1 l1 y1 z1 st hQ S1 g1 c1
  subst l1 y1 z1
  exact ⟨T1, v, Lc, X1, hQ, foldS hS hk S1 g1, g1, State.Warmed39.trans (t := s.setVm vm0) hZ S1.1, by rw [S1.1.alike.findClass]; exact hown, c1, fun t k => st.trans k⟩
open Jvm.Free.SB Jvm.Free.SBG in
theorem own_safeNull {x : Addr} {vm : Vm} (hal : Z.vm.Alike vm) (E : Exa Z h x "java/lang/String") (F : Fld Z h x "java/lang/String" "value" "[B" .null) : Safe Z EL vm h x := fun B => by
  obtain ⟨cell, k, e1, e2, e3, -, -⟩ := E
  obtain ⟨p, -, u, a, -, q, -, G, rfl | rfl⟩ := B
  · have hh := (show h[q.sa]? = some q.sC from G.ha)
    obtain ⟨cell', cf, k', i, f, f1, f2, f3, f4, f5, f6, f7⟩ := F
    cases hh.symm.trans f1
    obtain ⟨cS, ⟨⟨s1, s2, s3, ⟨cv, kv, iv, s4, s4'⟩, s5, s6, s7, s8, r⟩, -⟩, -⟩ := G
    obtain ⟨kv', z4⟩ := ff_back (U := Wst Z vm h) hal s4
    cases f2.symm.trans z4
    rw [s8] at f7; cases f7
  · cases (show h[q.sd]? = some q.SA from G.hd).symm.trans e1
    obtain ⟨cS, -, -, fB, -⟩ := G
    have fB : vm.findClass "[B" = some q.SA.cls := fB
    rw [hal.findClass] at fB
    obtain ⟨k1, q1, q2⟩ := Vm.findClass_spec fB
    obtain ⟨k2, q3, q4⟩ := Vm.findClass_spec e2
    cases q1.symm.trans q3
    exact absurd (q2.symm.trans q4) (by decide)
end OwnKitS
theorem own_c255 (x : Int32) : nar .char (x &&& 255).toUInt32.toUInt16.toUInt32.toInt32 = x &&& 255 := by
  rw [i2c_mask]
  exact i2c_mask x
theorem own_f255 (x : Int32) : fits .char (.int (x &&& 255)) = true := by
  rw [← own_c255]
  exact fits_nar_char _
theorem own_b8 (x : Int32) : nar .byte x.toInt8.toInt32 = x.toInt8.toInt32 := by
  show x.toInt8.toInt32.toInt8.toInt32 = _
  rw [Int8.toInt8_toInt32]
theorem own_le255 (x : Int32) : ¬ ((255 : Int32) < (x &&& (255 : Int32))) := by
  have h1 := c_mask x 255 8 (by decide) (by decide)
  rw [Int32.lt_iff_toInt_lt, h1]
  show ¬ (255 : Int) < _
  omega
theorem own_arrB {args : Array Value} {s : State} {t : Term} {a : Addr} {n : Int32} (ev : t.eval args s none [] s = some (.ref a)) (E : Exa s s.heap a "[B") (w : (Jvm.Cond.arrayClass .byte).before args s = true) (q : (Term.length t).eval args s none [] s = some (.int n)) : ∃ cl, Arr s s.heap a cl .byte := by
  obtain ⟨cell, k, h1, h2, h3, h4, -⟩ := E
  obtain ⟨c, k', comp, w1, w2, w3⟩ := Cond.arrayClass_spec w
  have e : cell.cls = c := Option.some.inj (h2.symm.trans w1)
  subst e
  refine ⟨cell, h1, ⟨(fun z hz => by rw [hz] at h4; cases h4), k', w2, comp, w3⟩, fun hu => ?_⟩
  have q2 : s.arrayAt? a = none := by
    unfold State.arrayAt?
    simp [h1, h3, hu]
  simp [Term.eval, ev, q2] at q
theorem own_digits {args : Array Value} {s : State} {C1 n1 d1 : String} {a : Addr} {cl : Cell} {f : Term} (ev : (Term.static C1 n1 d1).eval args s none [] s = some (.ref a)) (A : Arr s s.heap a cl .byte) (hz : cl.slots.size = 100) (q : (Jvm.Cond.all (.static C1 n1 d1) (.eq (.elem (.static C1 n1 d1) (.index 0)) f)).value args s none s [] = some true) (n : Nat) (hn : n < 100) {v : Value} (hv : f.eval args s none [n] s = some v) (hvi : ∃ z, v = .int z) :
    cl.slots[n]? = some v := by
  have ha := Arr.fin (U := s) (Vm.Alike.refl _) A
  have q1 := Cond.all_elim ev ha q n (by omega)
  have ev' : (Term.static C1 n1 d1).eval args s none [n] s = some (.ref a) := ev
  have e : (n.toInt32).toNatClampNeg = n := by
    have q2 := len_toInt (n := n) (by omega)
    simp only [Int32.toNatClampNeg]
    omega
  obtain ⟨z, rfl⟩ := hvi
  have ee : (Term.elem (.static C1 n1 d1) (.index 0)).eval args s none [n] s = some (.int z) := by
    cases hx : (Term.elem (.static C1 n1 d1) (.index 0)).eval args s none [n] s with
    | none => simp [Jvm.Cond.value, hx, hv] at q1
    | some x => cases x <;> simp_all [Jvm.Cond.value]
  have r := (elem_in ee ev' (Term.index_eval _) A.1).2
  rw [← e]
  exact r
theorem own_size100 {cl : Cell} (h : cl.slots.size < 2 ^ 31) (q : cl.slots.size.toInt32 = (100 : Int32)) : cl.slots.size = 100 := by
  have a := len_toInt h
  rw [q] at a
  have b : ((100 : Int32)).toInt = 100 := by decide
  omega
section OwnKitB
variable {p : Program} {l : Launch} {e : Env} {R : Room} {s : State} {m : MethodId} {args : Array Value} {below : List Frame} {meth : Method} {c : Code} {T T' : State} {locs : List Loc} {cells slots : Nat} {Z : State} {h h' h0 : Heap} {a0 : Array Value} {Q : Option Value → Heap → List Loc → Prop}
/-- a class that declares a method finds it in herself -/
theorem own_same {y : MethodName} (hin : (Jvm.Cond.instanceMethod y).before a0 Z = true) (nf : NotFace Z y) (hy : y.cls ≠ "java/lang/invoke/MethodHandle" ∧ y.cls ≠ "java/lang/invoke/VarHandle") : (Jvm.Cond.sameMethod y.cls y.cls y.name y.desc).before a0 Z = true := by
  obtain ⟨mk, mm, hnamed, -, -, -⟩ := Cond.instanceMethod_spec hin
  have hf := State.methodFound?_of_named hnamed hy
  obtain ⟨kr, hk, hi⟩ := nf mk hnamed
  have hc := findClass_of_methodNamed hnamed
  simp [Jvm.Cond.before, Jvm.Cond.holds, Jvm.Cond.value, hc, hf, hnamed, hk, hi]
theorem callSu (X : Stand p l e R s m args below meth c T locs cells slots) (hx : p.tables.exec = Jvm.exec) (hZ : Z.Warmed39 s.vm) {own K : String} {index : Nat} {y : MethodName} {bytes : ByteArray} {maxL : Nat} {ret : Option FieldType} {rm : Room} {as' : Array Value}
    (hown : s.vm.findClass own = some m.cls) (w1 : (Jvm.Cond.methodLink own index y).before a0 Z = true) (nf : NotFace Z y) (w3 : (Jvm.Cond.instanceMethod y).before a0 Z = true) (w4 : (Jvm.Cond.superclass own y.cls).before a0 Z = true) (hn : y.name ≠ "<init>") (w5 : (Jvm.Cond.code y bytes maxL ret).before a0 Z = true) (w6 : (Jvm.Cond.initialized y.cls).before a0 Z = true)
    (hy : y.cls ≠ "java/lang/invoke/MethodHandle" ∧ y.cls ≠ "java/lang/invoke/VarHandle") (hM : Ok l Z y bytes maxL ret rm as' h Q) (eT : T.heap = h) {W : Nat} (hf : rm.frames + 1 ≤ R.frames) (hl : W + (maxL + 11) + rm.locals ≤ R.locals) (hc : cells + rm.cells ≤ R.cells) (hs : slots + rm.slots ≤ R.slots)
    {a : Addr} (F : Ins Z h a K true) {g : JFrame} (hg : g.method = m) (hsize : g.locals.size = c.maxLocals) {argsL rest : List Value} (hlen : ∀ sig, parseMethodDescriptor y.desc = some sig → argsL.length = sig.parameters.length) (has : (.ref a :: argsL).toArray = as')
    (hstack : g.stack = argsL.reverse ++ .ref a :: rest) (hW : 2 * g.monitorRoom + (rest.map fun v => v.category).sum ≤ W) (hd : decode c.code g.pc = .ok (.invokespecial index, 3)) :
    ∃ T' v L, Stand p l e R s m args below meth c T' (locs ++ L) (cells + rm.cells) (slots + rm.slots) ∧ Q v T'.heap L ∧ ∀ t, Steps p.tables e below (T'.setTop { g with pc := g.pc + 3, stack := v.toList ++ rest }) t → Steps p.tables e below (T.setTop g) t := by
  subst has
  obtain ⟨v, _, ⟨T1, L1, k1, n1⟩, -, X1, ⟨Lc, hQ, l1, y1, z1⟩, st⟩ := superBack X hx hZ (y := y) hown w1 (own_same w3 nf hy) w3 w4 hn (backOf (W := W) (hM []) hZ w5 w6 hf hl) eT F hg hsize w5 hlen hstack hW hd (fun _ _ => ⟨rfl, eT, hc, hs⟩)
  dsimp only [Pt.U, Pt.locs, Pt.cells, Pt.slots] at X1 l1 y1 z1 st hQ
  subst l1 y1 z1
  exact ⟨T1, v, Lc, X1, hQ, fun t k => st.trans k⟩
theorem own_selfsel {y : MethodName} {C : String} (w2 : (Jvm.Cond.instanceMethod y).before a0 Z = true) (w3 : (Jvm.Cond.selects C y y).before a0 Z = true) (w4 : (Jvm.Cond.privateMethod y).before a0 Z = true) (hy : y.cls ≠ "java/lang/invoke/MethodHandle" ∧ y.cls ≠ "java/lang/invoke/VarHandle") : (Jvm.Cond.selects y.cls y y).before a0 Z = true := by
  obtain ⟨c2, r2, m2, -, -, q3, -, kP, hkP, hkPi⟩ := Cond.selects_spec w3
  exact selects_self_of_private (findClass_of_methodNamed q3) hkP hkPi (Cond.privateMethod_at w4) w2 hy
theorem own_gd (l : List Int32) (i : Nat) : (l.map Value.int).getD i (.int (0 : Int32)) = .int (l.getD i 0) := by
  simp only [List.getD_eq_getElem?_getD, List.getElem?_map]
  cases l[i]? <;> rfl
theorem own_cplist (bs ss : List Int32) (n : Nat) (h : ss.length ≤ n) (i : Nat) : ((bs ++ ss).map Value.int).getD i (Value.int (0 : Int32)) = ((bs.map Value.int ++ List.replicate n (Value.int (0 : Int32))).take bs.length ++ ((List.range n).map fun j => (ss.map Value.int).getD (0 + j) (Value.int (0 : Int32))) ++ (bs.map Value.int ++ List.replicate n (Value.int (0 : Int32))).drop (bs.length + n)).getD i (Value.int (0 : Int32)) := by
  rw [List.take_append_of_le_length (by simp), List.take_of_length_le (by simp), List.drop_eq_nil_of_le (by simp), List.append_nil, List.map_append]
  simp only [List.getD_eq_getElem?_getD]
  by_cases hi : i < bs.length
  · rw [List.getElem?_append_left (by simpa using hi), List.getElem?_append_left (by simpa using hi)]
  · rw [List.getElem?_append_right (by simpa using hi), List.getElem?_append_right (by simpa using hi)]
    generalize i - (bs.map Value.int).length = k
    by_cases hk : k < n
    · have q : ((List.range n).map fun j => ((ss.map Value.int)[0 + j]?).getD (Value.int (0 : Int32)))[k]? = some (((ss.map Value.int)[k]?).getD (Value.int (0 : Int32))) := by
        rw [List.getElem?_map, List.getElem?_range hk, Option.map_some, Nat.zero_add]
      rw [q]
      rfl
    · rw [List.getElem?_eq_none (by simp; omega), List.getElem?_eq_none (by simp; omega)]
theorem own_cpG (X : Stand p l e R s m args below meth c T locs cells slots) (hx : p.tables.exec = Jvm.exec) (hZ : Z.Warmed39 s.vm) {own : String} {index : Nat} (hown : s.vm.findClass own = some m.cls)
    (w1 : (Jvm.Cond.methodLink own index Jvm.Stand.acN).before a0 Z = true) (w2 : (Jvm.Cond.native Jvm.Stand.acN).before a0 Z = true) (w3 : (Jvm.Cond.static Jvm.Stand.acN).before a0 Z = true) (w4 : (Jvm.Cond.initialized "java/lang/System").before a0 Z = true) (eT : T.heap = h)
    {a b : Addr} {k k' : ClassId} {z z' dp nn : Int32} {ss bs : List Int32} (A : Arv Z h a k .byte z (ss.map Value.int) (.int (0 : Int32))) (B : Arv Z h b k' .byte z' (bs.map Value.int) (.int (0 : Int32))) (hdp : dp.toNatClampNeg = bs.length) (h2 : ¬ dp < 0) (h3 : ¬ nn < 0) (hn : ss.length ≤ nn.toNatClampNeg) (h4 : nn.toNatClampNeg ≤ z.toNatClampNeg) (h5 : dp.toNatClampNeg + nn.toNatClampNeg ≤ z'.toNatClampNeg)
    {n0 : Nat} (N : Fr n0 locs) (ge : n0 ≤ b) {g : JFrame} (hg : g.method = m) (hsize : g.locals.size = c.maxLocals) {rest : List Value} (hs : g.stack = .int nn :: .int dp :: .ref b :: .int 0 :: .ref a :: rest) (hd : decode c.code g.pc = .ok (.invokestatic index, 3))
    (hf : 1 ≤ R.frames) {W : Nat} (hW : 2 * g.monitorRoom + (rest.map fun v => v.category).sum ≤ W) (hlo : W + 18 ≤ R.locals) :
    ∃ T' h' L, Stand p l e R s m args below meth c T' L cells slots ∧ T'.heap = h' ∧ Fr n0 L ∧ Keep h h' [b] ∧ Arv Z h' b k' .byte z' ((bs ++ ss).map Value.int) (.int (0 : Int32)) ∧
      ∀ target, Steps p.tables e below (T'.setTop { g with pc := g.pc + 3, stack := rest }) target → Steps p.tables e below (T.setTop g) target := by
  have B2 := Arv.pad B (pad_rep (bs.map Value.int) (.int (0 : Int32)) nn.toNatClampNeg)
  obtain ⟨T2, h2', L2, X2, e2, N2, K2, A2, st2⟩ := cpA X hx hZ hown w1 w2 w3 w4 eT A B2 (sp := 0) (dp := dp) (nn := nn) (Or.inl ⟨rfl, rfl⟩) (by decide) h2 h3 (by simpa using h4) h5 rfl (by rw [hdp]; simp) N ge hg hsize hs hd hf hW (by rw [nativeFrameWords_plain 5 (by decide)]; exact hlo)
  refine ⟨T2, h2', L2, X2, e2, N2, K2, ?_, st2⟩
  rw [hdp] at A2
  exact Arv.pad A2 (own_cplist bs ss nn.toNatClampNeg hn)
end OwnKitB
def own_Ctx (Z : State) (A : Nat → Addr) (KC : Nat → Cell) (IC : Nat → Int32) (VC : Nat → Value) : Prop :=
  (Sta Z Z.heap "com/example/patient_courier/patientcourier/NameRule" "TOPIC" "Lcom/example/patient_courier/patientcourier/NameRule;" (.ref (A 0))) ∧
  (Exa Z Z.heap (A 0) "com/example/patient_courier/patientcourier/NameRule") ∧
  (Fld Z Z.heap (A 0) "com/example/patient_courier/patientcourier/NameRule" "kind" "Ljava/lang/String;" (.ref (A 1))) ∧
  (Exa Z Z.heap (A 1) "java/lang/String") ∧
  (Fld Z Z.heap (A 1) "java/lang/String" "value" "[B" (.ref (A 2))) ∧
  (Exa Z Z.heap (A 2) "[B") ∧
  (Fld Z Z.heap (A 1) "java/lang/String" "coder" "B" (.int (0 : Int32))) ∧
  (Fld Z Z.heap (A 0) "com/example/patient_courier/patientcourier/NameRule" "minLength" "I" (.int (3 : Int32))) ∧
  (Fld Z Z.heap (A 0) "com/example/patient_courier/patientcourier/NameRule" "maxLength" "I" (.int (50 : Int32))) ∧
  (Sta Z Z.heap "com/example/patient_courier/patientcourier/NameRule" "SUBSCRIPTION" "Lcom/example/patient_courier/patientcourier/NameRule;" (.ref (A 3))) ∧
  (Exa Z Z.heap (A 3) "com/example/patient_courier/patientcourier/NameRule") ∧
  (Fld Z Z.heap (A 3) "com/example/patient_courier/patientcourier/NameRule" "kind" "Ljava/lang/String;" (.ref (A 4))) ∧
  (Exa Z Z.heap (A 4) "java/lang/String") ∧
  (Fld Z Z.heap (A 4) "java/lang/String" "value" "[B" (.ref (A 5))) ∧
  (Exa Z Z.heap (A 5) "[B") ∧
  (Fld Z Z.heap (A 4) "java/lang/String" "coder" "B" (.int (0 : Int32))) ∧
  (Fld Z Z.heap (A 3) "com/example/patient_courier/patientcourier/NameRule" "minLength" "I" (.int (3 : Int32))) ∧
  (Fld Z Z.heap (A 3) "com/example/patient_courier/patientcourier/NameRule" "maxLength" "I" (.int (64 : Int32))) ∧
  (Sta Z Z.heap "java/lang/String" "COMPACT_STRINGS" "Z" (.int (IC 0))) ∧
  (¬ ((IC 0) = (0 : Int32))) ∧
  (Sta Z Z.heap "java/lang/Integer" "DigitOnes" "[B" (.ref (A 6))) ∧
  (Exa Z Z.heap (A 6) "[B") ∧
  (Sta Z Z.heap "java/lang/Integer" "DigitTens" "[B" (.ref (A 7))) ∧
  (Exa Z Z.heap (A 7) "[B") ∧
  (Arv Z Z.heap (A 2) (KC 0).cls .byte (5 : Int32) [(.int (116 : Int32)), (.int (111 : Int32)), (.int (112 : Int32)), (.int (105 : Int32)), (.int (99 : Int32))] (.int (0 : Int32))) ∧
  (Arv Z Z.heap (A 5) (KC 1).cls .byte (12 : Int32) [(.int (115 : Int32)), (.int (117 : Int32)), (.int (98 : Int32)), (.int (115 : Int32)), (.int (99 : Int32)), (.int (114 : Int32)), (.int (105 : Int32)), (.int (112 : Int32)), (.int (116 : Int32)), (.int (105 : Int32)), (.int (111 : Int32)), (.int (110 : Int32))] (.int (0 : Int32))) ∧
  (Arr Z Z.heap (A 6) (KC 2) .byte) ∧
  ((KC 2).slots.size = 100) ∧
  ((KC 2).slots[3]? = some (.int (51 : Int32))) ∧
  ((KC 2).slots[50]? = some (.int (48 : Int32))) ∧
  ((KC 2).slots[64]? = some (.int (52 : Int32))) ∧
  (Arr Z Z.heap (A 7) (KC 3) .byte) ∧
  ((KC 3).slots.size = 100) ∧
  ((KC 3).slots[50]? = some (.int (53 : Int32))) ∧
  ((KC 3).slots[64]? = some (.int (54 : Int32)))
theorem own_w {Z : State} {a0 : Array Value} (hw : ∀ d ∈ tables_1, d.before a0 Z = true) {i : Nat} {d : Jvm.Cond} (h : tables_1[i]? = some d) : d.before a0 Z = true := hw d (List.mem_of_getElem? h)
def own_EL : List (String × Nat) := [("com/example/patient_courier/patientcourier/NameRule", 59), ("com/example/patient_courier/patientcourier/NameRule", 65), ("com/example/patient_courier/patientcourier/NameRule", 70), ("com/example/patient_courier/patientcourier/NameRule", 72), ("com/example/patient_courier/patientcourier/NameRuleRequirementPinLaw", 13), ("com/example/patient_courier/patientcourier/NameRuleRequirementPinLaw", 18)]
theorem own_EW {Z : State} {a0 : Array Value} (hw : ∀ d ∈ tables_1, d.before a0 Z = true) : EW Z a0 own_EL := (EW.cons (own_w hw (i := 36) rfl) (by decide +kernel) (EW.cons (own_w hw (i := 89) rfl) (by decide +kernel) (EW.cons (own_w hw (i := 137) rfl) (by decide +kernel) (EW.cons (own_w hw (i := 141) rfl) (by decide +kernel) (EW.cons (own_w hw (i := 3) rfl) (by decide +kernel) (EW.cons (own_w hw (i := 192) rfl) (by decide +kernel) EW.nil))))))
theorem own_wS {Z : State} {a0 : Array Value} (hw : ∀ d ∈ tables_1, d.before a0 Z = true) : ∀ a ∈ Bundle.stringAtoms, a.before a0 Z = true := by
  intro a ha
  simp only [Bundle.stringAtoms, List.mem_cons, List.not_mem_nil, or_false] at ha
  rcases ha with rfl | rfl | rfl | rfl | rfl | rfl | rfl
  · exact (own_w hw (i := 4) rfl)
  · exact (own_w hw (i := 5) rfl)
  · exact (own_w hw (i := 6) rfl)
  · exact (own_w hw (i := 7) rfl)
  · exact (own_w hw (i := 8) rfl)
  · exact (own_w hw (i := 9) rfl)
  · exact (own_w hw (i := 10) rfl)
theorem own_nat {i : Int32} {k : Nat} (h : i.toInt = k) : i.toNatClampNeg = k := by
  show i.toInt.toNat = k
  omega
theorem d2_0 : decode jdk_68_method_2_code 0 = .ok (.aload_n 0, 1) := by decide +kernel
theorem d2_1 : decode jdk_68_method_2_code 1 = .ok (.invokespecial 3, 3) := by decide +kernel
theorem d2_4 : decode jdk_68_method_2_code 4 = .ok (.getstatic 18, 3) := by decide +kernel
theorem d2_7 : decode jdk_68_method_2_code 7 = .ok (.ifCond .eq 18, 3) := by decide +kernel
theorem d2_10 : decode jdk_68_method_2_code 10 = .ok (.aload_n 0, 1) := by decide +kernel
theorem d2_11 : decode jdk_68_method_2_code 11 = .ok (.iload_n 1, 1) := by decide +kernel
theorem d2_12 : decode jdk_68_method_2_code 12 = .ok (.newarray .byte, 2) := by decide +kernel
theorem d2_14 : decode jdk_68_method_2_code 14 = .ok (.putfield 15, 3) := by decide +kernel
theorem d2_17 : decode jdk_68_method_2_code 17 = .ok (.aload_n 0, 1) := by decide +kernel
theorem d2_18 : decode jdk_68_method_2_code 18 = .ok (.iconst 0, 1) := by decide +kernel
theorem d2_19 : decode jdk_68_method_2_code 19 = .ok (.putfield 22, 3) := by decide +kernel
theorem d2_22 : decode jdk_68_method_2_code 22 = .ok (.goto 16, 3) := by decide +kernel
theorem d2_38 : decode jdk_68_method_2_code 38 = .ok (.return_, 1) := by decide +kernel
abbrev own_m0 : MethodName := (⟨"java/lang/AbstractStringBuilder", "<init>", "(I)V"⟩ : MethodName)
theorem ef_rm_abi (m : MethodId) (ob : Addr) : entryFrame m #[(.ref ob), (.int (16 : Int32))] 2 = mkF m 0 #[rv ob, iv (16 : Int32)] [] := by first | (simp [entryFrame, mkF, argsToLocals, Value.category]; done) | rfl
theorem pn1 : plainFor (⟨"java/lang/AbstractStringBuilder", "<init>", "(I)V"⟩ : MethodName) = true := by first | exact plainFor_of_name (by first | (simp [plainName, overriddenIn]; done) | decide +kernel) | decide +kernel
set_option maxRecDepth 65536 in
set_option maxHeartbeats 40000000 in
theorem rm_abi {l : Launch} {Z : State} {a0 : Array Value} {A : Nat → Addr} {KC : Nat → Cell} {IC : Nat → Int32} {VC : Nat → Value} (hw : ∀ d ∈ tables_1, d.before a0 Z = true) (G : own_Ctx Z A KC IC VC) (ob : Addr)  (h0 : Heap) (O0 : Ext Z.heap h0) (prem0 : Exa Z h0 ob "java/lang/StringBuilder") (prem1 : Fld Z h0 ob "java/lang/AbstractStringBuilder" "value" "[B" .null) (prem2 : Fld Z h0 ob "java/lang/AbstractStringBuilder" "coder" "B" (.int (0 : Int32))) (prem3 : Fld Z h0 ob "java/lang/AbstractStringBuilder" "count" "I" (.int (0 : Int32))) (prem4 : Z.heap.size ≤ ob) :
    Ok l Z own_m0 jdk_68_method_2_code 2 none ({ frames := 1, cells := 1, slots := 16, locals := 12 } : Room) #[(.ref ob), (.int (16 : Int32))] h0
      (fun v h L => ∃ va : Addr, ∃ kv : ClassId, v = none ∧ (Fr Z.heap.size L) ∧ (Keep h0 h [ob]) ∧ (h0.size ≤ va) ∧ (Fld Z h ob "java/lang/AbstractStringBuilder" "value" "[B" (.ref va)) ∧ (Fld Z h ob "java/lang/AbstractStringBuilder" "coder" "B" (.int (0 : Int32))) ∧ (Fld Z h ob "java/lang/AbstractStringBuilder" "count" "I" (.int (0 : Int32))) ∧ (Arv Z h va kv .byte (16 : Int32) (([] : List Int32).map Value.int) (.int (0 : Int32)))) := by
  refine Ok.mk pn1 ?_
  intro p e s m below meth c T0 hx hby hml hown hnm hret hlk hZ e0 X0
  refine Go.cast (ef_rm_abi m ob) ?_
  obtain ⟨-, -, -, -, -, -, -, -, -, -, -, -, -, -, -, -, -, -, S_COMPACT_STRINGS, hne_s_COMPACT_STRINGS_0, -⟩ := id G
  have D := @hb _ _ hby
  have N0 := Fr.nil Z.heap.size
  have K0 : Keep h0 h0 [ob] := Keep.refl _ _
  obtain ⟨T1, X1, e1, st1⟩ := initO X0 hx hZ hown (own_w hw (i := 28) rfl) (own_w hw (i := 29) rfl) (own_w hw (i := 30) rfl) e0 (g := (mkF m 1 #[rv ob, iv 16] [(.ref ob)])) rfl (by rw [hml]; rfl) rfl (D d2_1) (by decide) (W := 0) (Nat.le_of_eq rfl) (by decide)
  obtain ⟨T2, X2, e2, st2⟩ := getS2 X1 hx hZ hown (host := "") (Or.inl (own_w hw (i := 31) rfl)) Via.refl e1 (Sta.ext O0 S_COMPACT_STRINGS) (g := (mkF m 4 #[rv ob, iv 16] [])) rfl (D d2_4)
  have hc3 : ¬ ((IC 0) = (0 : Int32)) := hne_s_COMPACT_STRINGS_0
  obtain ⟨T4, h4, k4, b4, q4, X4, e4, E4, V4, A4, st4⟩ := newAr X2 hx hZ (own_w hw (i := 6) rfl) e2 (g := (mkF m 12 #[rv ob, iv 16] [(.int 16), (.ref ob)])) rfl (D d2_12) rfl (by decide) (cap := 16) (by decide) (by decide) (by decide) (by decide) (ad := "[B") (by decide)
  have O5 := Old0.ext O0 E4
  have K5 := Keep.ext K0 E4
  have g_b4 : Z.heap.size ≤ b4 := q4 ▸ O0.1
  have z_b4 : h0.size ≤ b4 := q4 ▸ K0.1
  have ne_ob_b4 : ob ≠ b4 := q4 ▸ Nat.ne_of_lt prem0.lt
  have f6 : Arv Z h4 b4 k4 .byte (16 : Int32) [(.int 0), (.int 0), (.int 0), (.int 0), (.int 0), (.int 0), (.int 0), (.int 0), (.int 0), (.int 0), (.int 0), (.int 0), (.int 0), (.int 0), (.int 0), (.int 0)] (.int 0) := Arv.pad V4 (pad_rep [] (.int 0) 16)
  have f8 : Exa Z h4 ob "java/lang/StringBuilder" := (Exa.ext E4 prem0)
  have f9 : Fld Z h4 ob "java/lang/AbstractStringBuilder" "value" "[B" .null := (Fld.ext E4 prem1)
  obtain ⟨T7, h7, X7, e7, W7, st7⟩ := putF X4 hx hZ hown (host := "") (Or.inl (own_w hw (i := 32) rfl)) Via.refl e4 f9 f8 (Or.inl (own_w hw (i := 33) rfl)) (own_w hw (i := 17) rfl) (ty := (.array .byte)) (by decide) rfl rfl (g := (mkF m 14 #[rv ob, iv 16] [(.ref b4), (.ref ob)])) rfl rfl (D d2_14)
  have O10 := Old0.wr O5 W7 prem4
  have K10 := Keep.wr K5 W7 (Or.inl (List.mem_of_getElem? (i := 0) rfl))
  have N7 := Fr.snoc X7 N0 prem4
  have f7 : Fld Z h7 ob "java/lang/AbstractStringBuilder" "value" "[B" (.ref b4) := Fld.same W7 f9
  have f12 : Exa Z h7 ob "java/lang/StringBuilder" := (Exa.wr W7 f8)
  have f13 : Fld Z h7 ob "java/lang/AbstractStringBuilder" "coder" "B" (.int 0) := (Fld.other W7 (Fld.ext E4 prem2) (Or.inr (slot_ne (Or.inl (own_w hw (i := 35) rfl)) (Or.inl (own_w hw (i := 33) rfl)) (by decide) (t := .byte) (t' := (.array .byte)) (by decide) (by decide))))
  obtain ⟨T11, h11, X11, e11, W11, st11⟩ := putFN X7 hx hZ hown (own_w hw (i := 34) rfl) Via.refl e7 f13 f12 (Or.inl (own_w hw (i := 35) rfl)) (own_w hw (i := 17) rfl) (ty := .byte) (v' := (.int 0)) (by decide) rfl rfl (g := (mkF m 19 #[rv ob, iv 16] [(.int 0), (.ref ob)])) rfl rfl (D d2_19)
  have O14 := Old0.wr O10 W11 prem4
  have K14 := Keep.wr K10 W11 (Or.inl (List.mem_of_getElem? (i := 0) rfl))
  have N11 := Fr.snoc X11 N7 prem4
  have f11 : Fld Z h11 ob "java/lang/AbstractStringBuilder" "coder" "B" (.int 0) := Fld.same W11 f13
  have f15 : Arv Z h11 b4 k4 .byte (16 : Int32) [(.int 0), (.int 0), (.int 0), (.int 0), (.int 0), (.int 0), (.int 0), (.int 0), (.int 0), (.int 0), (.int 0), (.int 0), (.int 0), (.int 0), (.int 0), (.int 0)] (.int 0) := (Arv.other (Arv.other f6 W7 (Ne.symm ne_ob_b4)) W11 (Ne.symm ne_ob_b4))
  have fz : Arv Z h11 b4 k4 .byte (16 : Int32) (([] : List Int32).map Value.int) (.int 0) := Arv.pad f15 (fun i => (pad_rep [] (.int 0) 16 i).symm)
  have f16 : Fld Z h11 ob "java/lang/AbstractStringBuilder" "value" "[B" (.ref b4) := (Fld.other W11 f7 (Or.inr (slot_ne (Or.inl (own_w hw (i := 33) rfl)) (Or.inl (own_w hw (i := 35) rfl)) (by decide) (t := (.array .byte)) (t' := .byte) (by decide) (by decide))))
  have f17 : Fld Z h11 ob "java/lang/AbstractStringBuilder" "count" "I" (.int 0) := (Fld.other W11 (Fld.other W7 (Fld.ext E4 prem3) (Or.inr (slot_ne (Or.inl (own_w hw (i := 61) rfl)) (Or.inl (own_w hw (i := 33) rfl)) (by decide) (t := .int) (t' := (.array .byte)) (by decide) (by decide)))) (Or.inr (slot_ne (Or.inl (own_w hw (i := 61) rfl)) (Or.inl (own_w hw (i := 35) rfl)) (by decide) (t := .int) (t' := .byte) (by decide) (by decide))))
  refine Go.of (T' := T11) (f' := (mkF m 38 #[rv ob, iv 16] [])) (fun _ k => XS.aloadN X0.here hx rfl (D d2_0) rfl rfl (st1 _ (st2 _ (XS.ifNo X2.here hx rfl (D d2_7) rfl ((if0 _ _).trans (feq hc3).1) (XS.aloadN X2.here hx rfl (D d2_10) rfl rfl (XS.iloadN X2.here hx rfl (D d2_11) rfl (st4 _ (st7 _ (XS.aloadN X7.here hx rfl (D d2_17) rfl rfl (XS.iconst X7.here hx rfl (D d2_18) (st11 _ (XS.goto X11.here hx rfl (pc0 := 22) (pc' := 38) rfl (D d2_22) (by decide) (by decide) k)))))))))))) ?_
  exact Go.retV X11 hx hlk hret (D d2_38) (by decide) (by decide) (by rw [e11]; exact ⟨b4, k4, rfl, N11, K14, z_b4, f16, f11, f17, fz⟩)
theorem d1_0 : decode jdk_67_method_1_code 0 = .ok (.aload_n 0, 1) := by decide +kernel
theorem d1_1 : decode jdk_67_method_1_code 1 = .ok (.bipush 16, 2) := by decide +kernel
theorem d1_3 : decode jdk_67_method_1_code 3 = .ok (.invokespecial 1, 3) := by decide +kernel
theorem pd2 : parseMethodDescriptor "(I)V" = some ⟨[.int], none⟩ := by decide +kernel
theorem d1_6 : decode jdk_67_method_1_code 6 = .ok (.return_, 1) := by decide +kernel
abbrev own_m3 : MethodName := (⟨"java/lang/StringBuilder", "<init>", "()V"⟩ : MethodName)
theorem ef_rm_sbi (m : MethodId) (ob : Addr) : entryFrame m #[(.ref ob)] 1 = mkF m 0 #[rv ob] [] := by first | (simp [entryFrame, mkF, argsToLocals, Value.category]; done) | rfl
theorem pn4 : plainFor (⟨"java/lang/StringBuilder", "<init>", "()V"⟩ : MethodName) = true := by first | exact plainFor_of_name (by first | (simp [plainName, overriddenIn]; done) | decide +kernel) | decide +kernel
set_option maxRecDepth 65536 in
set_option maxHeartbeats 40000000 in
theorem rm_sbi {l : Launch} {Z : State} {a0 : Array Value} {A : Nat → Addr} {KC : Nat → Cell} {IC : Nat → Int32} {VC : Nat → Value} (hw : ∀ d ∈ tables_1, d.before a0 Z = true) (G : own_Ctx Z A KC IC VC) (ob : Addr)  (h0 : Heap) (O0 : Ext Z.heap h0) (prem0 : Exa Z h0 ob "java/lang/StringBuilder") (prem1 : Fld Z h0 ob "java/lang/AbstractStringBuilder" "value" "[B" .null) (prem2 : Fld Z h0 ob "java/lang/AbstractStringBuilder" "coder" "B" (.int (0 : Int32))) (prem3 : Fld Z h0 ob "java/lang/AbstractStringBuilder" "count" "I" (.int (0 : Int32))) (prem4 : Z.heap.size ≤ ob) :
    Ok l Z own_m3 jdk_67_method_1_code 1 none ({ frames := 2, cells := 1, slots := 16, locals := 25 } : Room) #[(.ref ob)] h0
      (fun v h L => ∃ va : Addr, ∃ kv : ClassId, v = none ∧ (Fr Z.heap.size L) ∧ (Keep h0 h [ob]) ∧ (h0.size ≤ va) ∧ (Fld Z h ob "java/lang/AbstractStringBuilder" "value" "[B" (.ref va)) ∧ (Fld Z h ob "java/lang/AbstractStringBuilder" "coder" "B" (.int (0 : Int32))) ∧ (Fld Z h ob "java/lang/AbstractStringBuilder" "count" "I" (.int (0 : Int32))) ∧ (Arv Z h va kv .byte (16 : Int32) (([] : List Int32).map Value.int) (.int (0 : Int32)))) := by
  refine Ok.mk pn4 ?_
  intro p e s m below meth c T0 hx hby hml hown hnm hret hlk hZ e0 X0
  refine Go.cast (ef_rm_sbi m ob) ?_
  have D := @hb _ _ hby
  have N0 := Fr.nil Z.heap.size
  have K0 : Keep h0 h0 [ob] := Keep.refl _ _
  obtain ⟨T18, v18, L18, X18, q18, st18⟩ := callNew X0 hx hZ (y := own_m0) rfl hown (own_w hw (i := 22) rfl) (own_w hw (i := 23) rfl) (own_w hw (i := 26) rfl) (own_w hw (i := 27) rfl) (by decide) (rm_abi hw G ob  h0 O0 prem0 prem1 prem2 prem3 prem4) e0 (W := 0) (by decide) (by decide) (by decide) (by decide) (g := (mkF m 3 #[rv ob] [(.int 16), (.ref ob)])) rfl (by rw [hml]; rfl) (a := ob) (argsL := [(.int 16)]) (rest := []) (lenOf pd2 rfl) rfl rfl (Nat.le_of_eq rfl) (D d1_3)
  obtain ⟨va_18, kv_18, rfl, N18q, K18q, p18_0, p18_1, p18_2, p18_3, p18_4⟩ := q18
  have N18 := Fr.app N0 N18q
  have O19 := Old0.keep O0 K18q (allS prem4 all0)
  have K19 := Keep.trans K0 K18q (allS (Or.inl (List.mem_of_getElem? (i := 0) rfl)) all0)
  have z_va_18 : h0.size ≤ va_18 := Nat.le_trans K0.1 p18_0
  have g_va_18 : Z.heap.size ≤ va_18 := Nat.le_trans O0.1 p18_0
  have ne_ob_va_18 : ob ≠ va_18 := Nat.ne_of_lt (Nat.lt_of_lt_of_le prem0.lt p18_0)
  refine Go.of (T' := T18) (f' := (mkF m 6 #[rv ob] [])) (fun _ k => XS.aloadN X0.here hx rfl (D d1_0) rfl rfl (XS.bipush X0.here hx rfl (D d1_1) (st18 _ k))) ?_
  exact Go.retV X18 hx hlk hret (D d1_6) (by decide) (by decide) ⟨va_18, kv_18, rfl, N18, K19, z_va_18, p18_1, p18_2, p18_3, p18_4⟩
theorem d7_0 : decode jdk_42_method_152_code 0 = .ok (.getstatic 38, 3) := by decide +kernel
theorem d7_3 : decode jdk_42_method_152_code 3 = .ok (.ifCond .eq 10, 3) := by decide +kernel
theorem d7_6 : decode jdk_42_method_152_code 6 = .ok (.aload_n 0, 1) := by decide +kernel
theorem d7_7 : decode jdk_42_method_152_code 7 = .ok (.getfield 15, 3) := by decide +kernel
theorem d7_10 : decode jdk_42_method_152_code 10 = .ok (.goto 4, 3) := by decide +kernel
theorem d7_14 : decode jdk_42_method_152_code 14 = .ok (.ireturn, 1) := by decide +kernel
abbrev own_m5 : MethodName := (⟨"java/lang/String", "coder", "()B"⟩ : MethodName)
theorem ef_rm_coder (m : MethodId) (so : Addr) : entryFrame m #[(.ref so)] 1 = mkF m 0 #[rv so] [] := by first | (simp [entryFrame, mkF, argsToLocals, Value.category]; done) | rfl
theorem pn6 : plainFor (⟨"java/lang/String", "coder", "()B"⟩ : MethodName) = true := by first | exact plainFor_of_name (by first | (simp [plainName, overriddenIn]; done) | decide +kernel) | decide +kernel
set_option maxRecDepth 65536 in
set_option maxHeartbeats 40000000 in
theorem rm_coder {l : Launch} {Z : State} {a0 : Array Value} {A : Nat → Addr} {KC : Nat → Cell} {IC : Nat → Int32} {VC : Nat → Value} (hw : ∀ d ∈ tables_1, d.before a0 Z = true) (G : own_Ctx Z A KC IC VC) (so : Addr)  (h0 : Heap) (O0 : Ext Z.heap h0) (prem0 : Fld Z h0 so "java/lang/String" "coder" "B" (.int (0 : Int32))) :
    Ok l Z own_m5 jdk_42_method_152_code 1 (some .byte) ({ frames := 0, cells := 0, slots := 0, locals := 0 } : Room) #[(.ref so)] h0
      (fun v h L => v = some (.int (0 : Int32)) ∧ (h = h0) ∧ (L = [])) := by
  refine Ok.mk pn6 ?_
  intro p e s m below meth c T0 hx hby hml hown hnm hret hlk hZ e0 X0
  refine Go.cast (ef_rm_coder m so) ?_
  obtain ⟨-, -, -, -, -, -, -, -, -, -, -, -, -, -, -, -, -, -, S_COMPACT_STRINGS, hne_s_COMPACT_STRINGS_0, -⟩ := id G
  have D := @hb _ _ hby
  have N0 := Fr.nil Z.heap.size
  have K0 : Keep h0 h0 [] := Keep.refl _ _
  obtain ⟨T20, X20, e20, st20⟩ := getS2 X0 hx hZ hown (host := "") (Or.inl (own_w hw (i := 58) rfl)) Via.refl e0 (Sta.ext O0 S_COMPACT_STRINGS) (g := (mkF m 0 #[rv so] [])) rfl (D d7_0)
  have hc21 : ¬ ((IC 0) = (0 : Int32)) := hne_s_COMPACT_STRINGS_0
  obtain ⟨T22, X22, e22, st22⟩ := getF X20 hx hZ hown (host := "") (Or.inl (own_w hw (i := 59) rfl)) Via.refl e20 prem0 (g := (mkF m 7 #[rv so] [(.ref so)])) rfl rfl (D d7_7)
  refine Go.of (T' := T22) (f' := (mkF m 14 #[rv so] [(.int 0)])) (fun _ k => st20 _ (XS.ifNo X20.here hx rfl (D d7_3) rfl ((if0 _ _).trans (feq hc21).1) (XS.aloadN X20.here hx rfl (D d7_6) rfl rfl (st22 _ (XS.goto X22.here hx rfl (pc0 := 10) (pc' := 14) rfl (D d7_10) (by decide) (by decide) k))))) ?_
  exact Go.retB X22 hx hlk hret (by simp) (D d7_14) (by decide) (by decide) (z' := (0 : Int32)) rfl (by rw [e22]; exact ⟨rfl, rfl, by simp⟩)
theorem own_shr0 (n : Int32) (h : ¬ n < 0) : n >>> ((0 : Int32) &&& 31) = n := by
  rw [← Int32.toInt_inj, c_ishr n 0 0 (by decide)]
  simp
theorem d6_0 : decode jdk_42_method_54_code 0 = .ok (.aload_n 0, 1) := by decide +kernel
theorem d6_1 : decode jdk_42_method_54_code 1 = .ok (.getfield 9, 3) := by decide +kernel
theorem d6_4 : decode jdk_42_method_54_code 4 = .ok (.arraylength, 1) := by decide +kernel
theorem d6_5 : decode jdk_42_method_54_code 5 = .ok (.aload_n 0, 1) := by decide +kernel
theorem d6_6 : decode jdk_42_method_54_code 6 = .ok (.invokevirtual 335, 3) := by decide +kernel
theorem pd7 : parseMethodDescriptor "()B" = some ⟨[], some .byte⟩ := by decide +kernel
theorem d6_9 : decode jdk_42_method_54_code 9 = .ok (.ishr, 1) := by decide +kernel
theorem d6_10 : decode jdk_42_method_54_code 10 = .ok (.ireturn, 1) := by decide +kernel
abbrev own_m8 : MethodName := (⟨"java/lang/String", "length", "()I"⟩ : MethodName)
theorem ef_rm_len (m : MethodId) (so : Addr) : entryFrame m #[(.ref so)] 1 = mkF m 0 #[rv so] [] := by first | (simp [entryFrame, mkF, argsToLocals, Value.category]; done) | rfl
theorem pn9 : plainFor (⟨"java/lang/String", "length", "()I"⟩ : MethodName) = true := by first | exact plainFor_of_name (by first | (simp [plainName, overriddenIn]; done) | decide +kernel) | decide +kernel
set_option maxRecDepth 65536 in
set_option maxHeartbeats 40000000 in
theorem rm_len {l : Launch} {Z : State} {a0 : Array Value} {A : Nat → Addr} {KC : Nat → Cell} {IC : Nat → Int32} {VC : Nat → Value} (hw : ∀ d ∈ tables_1, d.before a0 Z = true) (G : own_Ctx Z A KC IC VC) (so : Addr) (sv : Addr) (ks : ClassId) (n : Int32) (ts : List Int32) (h0 : Heap) (O0 : Ext Z.heap h0) (prem0 : Exa Z h0 so "java/lang/String") (prem1 : Fld Z h0 so "java/lang/String" "value" "[B" (.ref sv)) (prem2 : Fld Z h0 so "java/lang/String" "coder" "B" (.int (0 : Int32))) (prem3 : Arv Z h0 sv ks .byte n (ts.map Value.int) (.int (0 : Int32))) (prem4 : ¬ n < 0) :
    Ok l Z own_m8 jdk_42_method_54_code 1 (some .int) ({ frames := 1, cells := 0, slots := 0, locals := 13 } : Room) #[(.ref so)] h0
      (fun v h L => v = some (.int n) ∧ (h = h0) ∧ (L = [])) := by
  refine Ok.mk pn9 ?_
  intro p e s m below meth c T0 hx hby hml hown hnm hret hlk hZ e0 X0
  refine Go.cast (ef_rm_len m so) ?_
  have D := @hb _ _ hby
  have N0 := Fr.nil Z.heap.size
  have K0 : Keep h0 h0 [] := Keep.refl _ _
  obtain ⟨T23, X23, e23, st23⟩ := getF X0 hx hZ hown (host := "") (Or.inl (own_w hw (i := 52) rfl)) Via.refl e0 prem1 (g := (mkF m 1 #[rv so] [(.ref so)])) rfl rfl (D d6_1)
  obtain ⟨cl24, Ar24, qk24, S24, Ng24, H24, G24⟩ := id prem3
  obtain ⟨T25, v25, L25, X25, q25, st25⟩ := callVi X23 hx hZ (y := own_m5) (z := own_m5) hown (own_w hw (i := 53) rfl) (own_w hw (i := 54) rfl) (notFace_of_selects (args := #[]) (mvT hZ (own_w hw (i := 56) rfl))) (own_w hw (i := 56) rfl) (own_w hw (i := 55) rfl) (own_w hw (i := 57) rfl) (own_w hw (i := 4) rfl) (by decide) (rm_coder hw G so  h0 O0 prem2) e23 (W := 1) (by decide) (by decide) (by decide) (by decide) prem0 (g := (mkF m 6 #[rv so] [(.ref so), (.int n)])) rfl (by rw [hml]; rfl) (argsL := []) (rest := [(.int n)]) (lenOf pd7 rfl) rfl rfl (Nat.le_of_eq rfl) (D d6_6)
  obtain ⟨rfl, e25, rfl⟩ := q25
  have N25 := Fr.app N0 (Fr.nil _)
  refine Go.of (T' := T25) (f' := (mkF m 10 #[rv so] [(.int (n >>> ((0 : Int32) &&& 31)))])) (fun _ k => XS.aloadN X0.here hx rfl (D d6_0) rfl rfl (st23 _ (X23.arraylength hx (by rw [e23]; exact Ar24.1) (State.isArrayOf_alike hZ.alike Ar24.2.1) (g := (mkF m 4 #[rv so] [(.ref sv)])) rfl rfl (D d6_4) _ (by rw [len_of S24 Ng24]; exact (XS.aloadN X23.here hx rfl (D d6_5) rfl rfl (st25 _ (XS.ishr X25.here hx rfl (D d6_9) rfl k))))))) ?_
  exact Go.retI X25 hx hlk hret (D d6_10) (by decide) (by decide) (by rw [e25]; exact ⟨by rw [own_shr0 n prem4], rfl, by simp⟩)
theorem d10_0 : decode jdk_68_method_71_code 0 = .ok (.getstatic 18, 3) := by decide +kernel
theorem d10_3 : decode jdk_68_method_71_code 3 = .ok (.ifCond .eq 18, 3) := by decide +kernel
theorem d10_6 : decode jdk_68_method_71_code 6 = .ok (.aload_n 0, 1) := by decide +kernel
theorem d10_7 : decode jdk_68_method_71_code 7 = .ok (.getfield 22, 3) := by decide +kernel
theorem d10_10 : decode jdk_68_method_71_code 10 = .ok (.aload_n 1, 1) := by decide +kernel
theorem d10_11 : decode jdk_68_method_71_code 11 = .ok (.invokevirtual 40, 3) := by decide +kernel
theorem d10_14 : decode jdk_68_method_71_code 14 = .ok (.if_icmp .eq 7, 3) := by decide +kernel
theorem d10_21 : decode jdk_68_method_71_code 21 = .ok (.return_, 1) := by decide +kernel
abbrev own_m10 : MethodName := (⟨"java/lang/AbstractStringBuilder", "inflateIfNeededFor", "(Ljava/lang/String;)V"⟩ : MethodName)
theorem ef_rm_infl (m : MethodId) (ob : Addr) (so : Addr) : entryFrame m #[(.ref ob), (.ref so)] 2 = mkF m 0 #[rv ob, rv so] [] := by first | (simp [entryFrame, mkF, argsToLocals, Value.category]; done) | rfl
theorem pn11 : plainFor (⟨"java/lang/AbstractStringBuilder", "inflateIfNeededFor", "(Ljava/lang/String;)V"⟩ : MethodName) = true := by first | exact plainFor_of_name (by first | (simp [plainName, overriddenIn]; done) | decide +kernel) | decide +kernel
set_option maxRecDepth 65536 in
set_option maxHeartbeats 40000000 in
theorem rm_infl {l : Launch} {Z : State} {a0 : Array Value} {A : Nat → Addr} {KC : Nat → Cell} {IC : Nat → Int32} {VC : Nat → Value} (hw : ∀ d ∈ tables_1, d.before a0 Z = true) (G : own_Ctx Z A KC IC VC) (ob : Addr) (so : Addr)  (h0 : Heap) (O0 : Ext Z.heap h0) (prem0 : Fld Z h0 ob "java/lang/AbstractStringBuilder" "coder" "B" (.int (0 : Int32))) (prem1 : Exa Z h0 so "java/lang/String") (prem2 : Fld Z h0 so "java/lang/String" "coder" "B" (.int (0 : Int32))) :
    Ok l Z own_m10 jdk_68_method_71_code 2 none ({ frames := 1, cells := 0, slots := 0, locals := 13 } : Room) #[(.ref ob), (.ref so)] h0
      (fun v h L => v = none ∧ (h = h0) ∧ (L = [])) := by
  refine Ok.mk pn11 ?_
  intro p e s m below meth c T0 hx hby hml hown hnm hret hlk hZ e0 X0
  refine Go.cast (ef_rm_infl m ob so) ?_
  obtain ⟨-, -, -, -, -, -, -, -, -, -, -, -, -, -, -, -, -, -, S_COMPACT_STRINGS, hne_s_COMPACT_STRINGS_0, -⟩ := id G
  have D := @hb _ _ hby
  have N0 := Fr.nil Z.heap.size
  have K0 : Keep h0 h0 [] := Keep.refl _ _
  obtain ⟨T26, X26, e26, st26⟩ := getS2 X0 hx hZ hown (host := "") (Or.inl (own_w hw (i := 31) rfl)) Via.refl e0 (Sta.ext O0 S_COMPACT_STRINGS) (g := (mkF m 0 #[rv ob, rv so] [])) rfl (D d10_0)
  have hc27 : ¬ ((IC 0) = (0 : Int32)) := hne_s_COMPACT_STRINGS_0
  obtain ⟨T28, X28, e28, st28⟩ := getF X26 hx hZ hown (host := "") (Or.inl (own_w hw (i := 34) rfl)) Via.refl e26 prem0 (g := (mkF m 7 #[rv ob, rv so] [(.ref ob)])) rfl rfl (D d10_7)
  obtain ⟨T29, v29, L29, X29, q29, st29⟩ := callVi X28 hx hZ (y := own_m5) (z := own_m5) hown (own_w hw (i := 77) rfl) (own_w hw (i := 54) rfl) (notFace_of_selects (args := #[]) (mvT hZ (own_w hw (i := 56) rfl))) (own_w hw (i := 56) rfl) (own_w hw (i := 55) rfl) (own_w hw (i := 57) rfl) (own_w hw (i := 4) rfl) (by decide) (rm_coder hw G so  h0 O0 prem2) e28 (W := 1) (by decide) (by decide) (by decide) (by decide) prem1 (g := (mkF m 11 #[rv ob, rv so] [(.ref so), (.int 0)])) rfl (by rw [hml]; rfl) (argsL := []) (rest := [(.int 0)]) (lenOf pd7 rfl) rfl rfl (Nat.le_of_eq rfl) (D d10_11)
  obtain ⟨rfl, e29, rfl⟩ := q29
  have N29 := Fr.app N0 (Fr.nil _)
  refine Go.of (T' := T29) (f' := (mkF m 21 #[rv ob, rv so] [])) (fun _ k => st26 _ (XS.ifNo X26.here hx rfl (D d10_3) rfl ((if0 _ _).trans (feq hc27).1) (XS.aloadN X26.here hx rfl (D d10_6) rfl rfl (st28 _ (XS.aloadN X28.here hx rfl (D d10_10) rfl rfl (st29 _ (XS.icmpYes X29.here hx rfl (pc0 := 14) (pc' := 21) rfl (D d10_14) rfl (teq (by decide : (0 : Int32) = (0 : Int32))).1 (by decide) (by decide) k))))))) ?_
  exact Go.retV X29 hx hlk hret (D d10_21) (by decide) (by decide) (by rw [e29]; exact ⟨rfl, rfl, by simp⟩)
theorem pn_java_lang_Math_max__II_I : plainFor (⟨"java/lang/Math", "max", "(II)I"⟩ : MethodName) = true := Jvm.Free.JP.mathPlain rfl (by decide +kernel)
theorem pn_java_lang_Math_min__II_I : plainFor (⟨"java/lang/Math", "min", "(II)I"⟩ : MethodName) = true := Jvm.Free.JP.mathPlain rfl (by decide +kernel)
theorem d14_0 : decode jdk_33_method_13_code 0 = .ok (.iconst 1, 1) := by decide +kernel
theorem d14_1 : decode jdk_33_method_13_code 1 = .ok (.istore_n 1, 1) := by decide +kernel
theorem d14_2 : decode jdk_33_method_13_code 2 = .ok (.iload_n 0, 1) := by decide +kernel
theorem d14_3 : decode jdk_33_method_13_code 3 = .ok (.ifCond .lt 8, 3) := by decide +kernel
theorem d14_6 : decode jdk_33_method_13_code 6 = .ok (.iconst 0, 1) := by decide +kernel
theorem d14_7 : decode jdk_33_method_13_code 7 = .ok (.istore_n 1, 1) := by decide +kernel
theorem d14_8 : decode jdk_33_method_13_code 8 = .ok (.iload_n 0, 1) := by decide +kernel
theorem d14_9 : decode jdk_33_method_13_code 9 = .ok (.ineg, 1) := by decide +kernel
theorem d14_10 : decode jdk_33_method_13_code 10 = .ok (.istore_n 0, 1) := by decide +kernel
theorem d14_11 : decode jdk_33_method_13_code 11 = .ok (.bipush (-10), 2) := by decide +kernel
theorem d14_13 : decode jdk_33_method_13_code 13 = .ok (.istore_n 2, 1) := by decide +kernel
theorem d14_14 : decode jdk_33_method_13_code 14 = .ok (.iconst 1, 1) := by decide +kernel
theorem d14_15 : decode jdk_33_method_13_code 15 = .ok (.istore_n 3, 1) := by decide +kernel
theorem d14_16 : decode jdk_33_method_13_code 16 = .ok (.iload_n 3, 1) := by decide +kernel
theorem d14_17 : decode jdk_33_method_13_code 17 = .ok (.bipush 10, 2) := by decide +kernel
theorem d14_19 : decode jdk_33_method_13_code 19 = .ok (.if_icmp .ge 23, 3) := by decide +kernel
theorem d14_22 : decode jdk_33_method_13_code 22 = .ok (.iload_n 0, 1) := by decide +kernel
theorem d14_23 : decode jdk_33_method_13_code 23 = .ok (.iload_n 2, 1) := by decide +kernel
theorem d14_24 : decode jdk_33_method_13_code 24 = .ok (.if_icmp .le 7, 3) := by decide +kernel
theorem d14_27 : decode jdk_33_method_13_code 27 = .ok (.iload_n 3, 1) := by decide +kernel
theorem d14_28 : decode jdk_33_method_13_code 28 = .ok (.iload_n 1, 1) := by decide +kernel
theorem d14_29 : decode jdk_33_method_13_code 29 = .ok (.iadd, 1) := by decide +kernel
theorem d14_30 : decode jdk_33_method_13_code 30 = .ok (.ireturn, 1) := by decide +kernel
abbrev own_m12 : MethodName := (⟨"java/lang/Integer", "stringSize", "(I)I"⟩ : MethodName)
theorem ef_rm_ss_3 (m : MethodId)  : entryFrame m #[(.int (3 : Int32))] 4 = mkF m 0 #[iv (3 : Int32), .unset, .unset, .unset] [] := by first | (simp [entryFrame, mkF, argsToLocals, Value.category]; done) | rfl
theorem pn13 : plainFor (⟨"java/lang/Integer", "stringSize", "(I)I"⟩ : MethodName) = true := by first | exact plainFor_of_name (by first | (simp [plainName, overriddenIn]; done) | decide +kernel) | decide +kernel
set_option maxRecDepth 65536 in
set_option maxHeartbeats 40000000 in
theorem rm_ss_3 {l : Launch} {Z : State} {a0 : Array Value} {A : Nat → Addr} {KC : Nat → Cell} {IC : Nat → Int32} {VC : Nat → Value} (hw : ∀ d ∈ tables_1, d.before a0 Z = true) (G : own_Ctx Z A KC IC VC)   (h0 : Heap) (O0 : Ext Z.heap h0)  :
    Ok l Z own_m12 jdk_33_method_13_code 4 (some .int) ({ frames := 0, cells := 0, slots := 0, locals := 0 } : Room) #[(.int (3 : Int32))] h0
      (fun v h L => v = some (.int (1 : Int32)) ∧ (h = h0) ∧ (L = [])) := by
  refine Ok.mk pn13 ?_
  intro p e s m below meth c T0 hx hby hml hown hnm hret hlk hZ e0 X0
  refine Go.cast (ef_rm_ss_3 m ) ?_
  have D := @hb _ _ hby
  have N0 := Fr.nil Z.heap.size
  have K0 : Keep h0 h0 [] := Keep.refl _ _
  refine Go.of (T' := T0) (f' := (mkF m 30 #[iv (-3 : Int32), iv 0, iv (-10 : Int32), iv 1] [(.int 1)])) (fun _ k => XS.iconst X0.here hx rfl (D d14_0) (XS.istoreN X0.here hx rfl (D d14_1) rfl (l' := #[iv 3, iv 1, .unset, .unset]) rfl (XS.iloadN X0.here hx rfl (D d14_2) rfl (XS.ifNo X0.here hx rfl (D d14_3) rfl ((if0 _ _).trans (flt (by decide : ¬ ((3 : Int32) < (0 : Int32)))).1) (XS.iconst X0.here hx rfl (D d14_6) (XS.istoreN X0.here hx rfl (D d14_7) rfl (l' := #[iv 3, iv 0, .unset, .unset]) rfl (XS.iloadN X0.here hx rfl (D d14_8) rfl (XS.ineg X0.here hx rfl (D d14_9) rfl (XS.istoreN X0.here hx rfl (D d14_10) rfl (l' := #[iv (-3 : Int32), iv 0, .unset, .unset]) rfl (XS.bipush X0.here hx rfl (D d14_11) (XS.istoreN X0.here hx rfl (D d14_13) rfl (l' := #[iv (-3 : Int32), iv 0, iv (-10 : Int32), .unset]) rfl (XS.iconst X0.here hx rfl (D d14_14) (XS.istoreN X0.here hx rfl (D d14_15) rfl (l' := #[iv (-3 : Int32), iv 0, iv (-10 : Int32), iv 1]) rfl (XS.iloadN X0.here hx rfl (D d14_16) rfl (XS.bipush X0.here hx rfl (D d14_17) (XS.icmpNo X0.here hx rfl (D d14_19) rfl (tlt (by decide : (1 : Int32) < (10 : Int32))).2.1 (XS.iloadN X0.here hx rfl (D d14_22) rfl (XS.iloadN X0.here hx rfl (D d14_23) rfl (XS.icmpNo X0.here hx rfl (D d14_24) rfl (tlt (by decide : (-10 : Int32) < (-3 : Int32))).2.2.2 (XS.iloadN X0.here hx rfl (D d14_27) rfl (XS.iloadN X0.here hx rfl (D d14_28) rfl (XS.iadd X0.here hx rfl (D d14_29) rfl k)))))))))))))))))))))) ?_
  exact Go.retI X0 hx hlk hret (D d14_30) (by decide) (by decide) (by rw [e0]; exact ⟨rfl, rfl, by simp⟩)
theorem d14_31 : decode jdk_33_method_13_code 31 = .ok (.bipush 10, 2) := by decide +kernel
theorem d14_33 : decode jdk_33_method_13_code 33 = .ok (.iload_n 2, 1) := by decide +kernel
theorem d14_34 : decode jdk_33_method_13_code 34 = .ok (.imul, 1) := by decide +kernel
theorem d14_35 : decode jdk_33_method_13_code 35 = .ok (.istore_n 2, 1) := by decide +kernel
theorem d14_36 : decode jdk_33_method_13_code 36 = .ok (.iinc 3 1, 3) := by decide +kernel
theorem d14_39 : decode jdk_33_method_13_code 39 = .ok (.goto (-23), 3) := by decide +kernel
theorem ef_rm_ss_50 (m : MethodId)  : entryFrame m #[(.int (50 : Int32))] 4 = mkF m 0 #[iv (50 : Int32), .unset, .unset, .unset] [] := by first | (simp [entryFrame, mkF, argsToLocals, Value.category]; done) | rfl
set_option maxRecDepth 65536 in
set_option maxHeartbeats 40000000 in
theorem rm_ss_50 {l : Launch} {Z : State} {a0 : Array Value} {A : Nat → Addr} {KC : Nat → Cell} {IC : Nat → Int32} {VC : Nat → Value} (hw : ∀ d ∈ tables_1, d.before a0 Z = true) (G : own_Ctx Z A KC IC VC)   (h0 : Heap) (O0 : Ext Z.heap h0)  :
    Ok l Z own_m12 jdk_33_method_13_code 4 (some .int) ({ frames := 0, cells := 0, slots := 0, locals := 0 } : Room) #[(.int (50 : Int32))] h0
      (fun v h L => v = some (.int (2 : Int32)) ∧ (h = h0) ∧ (L = [])) := by
  refine Ok.mk pn13 ?_
  intro p e s m below meth c T0 hx hby hml hown hnm hret hlk hZ e0 X0
  refine Go.cast (ef_rm_ss_50 m ) ?_
  have D := @hb _ _ hby
  have N0 := Fr.nil Z.heap.size
  have K0 : Keep h0 h0 [] := Keep.refl _ _
  refine Go.of (T' := T0) (f' := (mkF m 39 #[iv (-50 : Int32), iv 0, iv (-100 : Int32), iv 2] [])) (fun _ k => XS.iconst X0.here hx rfl (D d14_0) (XS.istoreN X0.here hx rfl (D d14_1) rfl (l' := #[iv 50, iv 1, .unset, .unset]) rfl (XS.iloadN X0.here hx rfl (D d14_2) rfl (XS.ifNo X0.here hx rfl (D d14_3) rfl ((if0 _ _).trans (flt (by decide : ¬ ((50 : Int32) < (0 : Int32)))).1) (XS.iconst X0.here hx rfl (D d14_6) (XS.istoreN X0.here hx rfl (D d14_7) rfl (l' := #[iv 50, iv 0, .unset, .unset]) rfl (XS.iloadN X0.here hx rfl (D d14_8) rfl (XS.ineg X0.here hx rfl (D d14_9) rfl (XS.istoreN X0.here hx rfl (D d14_10) rfl (l' := #[iv (-50 : Int32), iv 0, .unset, .unset]) rfl (XS.bipush X0.here hx rfl (D d14_11) (XS.istoreN X0.here hx rfl (D d14_13) rfl (l' := #[iv (-50 : Int32), iv 0, iv (-10 : Int32), .unset]) rfl (XS.iconst X0.here hx rfl (D d14_14) (XS.istoreN X0.here hx rfl (D d14_15) rfl (l' := #[iv (-50 : Int32), iv 0, iv (-10 : Int32), iv 1]) rfl (XS.iloadN X0.here hx rfl (D d14_16) rfl (XS.bipush X0.here hx rfl (D d14_17) (XS.icmpNo X0.here hx rfl (D d14_19) rfl (tlt (by decide : (1 : Int32) < (10 : Int32))).2.1 (XS.iloadN X0.here hx rfl (D d14_22) rfl (XS.iloadN X0.here hx rfl (D d14_23) rfl (XS.icmpYes X0.here hx rfl (pc0 := 24) (pc' := 31) rfl (D d14_24) rfl (flt (by decide : ¬ ((-10 : Int32) < (-50 : Int32)))).2.2.2 (by decide) (by decide) (XS.bipush X0.here hx rfl (D d14_31) (XS.iloadN X0.here hx rfl (D d14_33) rfl (XS.imul X0.here hx rfl (D d14_34) rfl (XS.istoreN X0.here hx rfl (D d14_35) rfl (l' := #[iv (-50 : Int32), iv 0, iv (-100 : Int32), iv 1]) rfl (XS.iinc X0.here hx rfl (D d14_36) rfl (l' := #[iv (-50 : Int32), iv 0, iv (-100 : Int32), iv 2]) rfl k)))))))))))))))))))))))) ?_
  refine Go.of (T' := T0) (f' := (mkF m 30 #[iv (-50 : Int32), iv 0, iv (-100 : Int32), iv 2] [(.int 2)])) (fun _ k => XS.goto X0.here hx rfl (pc0 := 39) (pc' := 16) rfl (D d14_39) (by decide) (by decide) (XS.iloadN X0.here hx rfl (D d14_16) rfl (XS.bipush X0.here hx rfl (D d14_17) (XS.icmpNo X0.here hx rfl (D d14_19) rfl (tlt (by decide : (2 : Int32) < (10 : Int32))).2.1 (XS.iloadN X0.here hx rfl (D d14_22) rfl (XS.iloadN X0.here hx rfl (D d14_23) rfl (XS.icmpNo X0.here hx rfl (D d14_24) rfl (tlt (by decide : (-100 : Int32) < (-50 : Int32))).2.2.2 (XS.iloadN X0.here hx rfl (D d14_27) rfl (XS.iloadN X0.here hx rfl (D d14_28) rfl (XS.iadd X0.here hx rfl (D d14_29) rfl k)))))))))) ?_
  exact Go.retI X0 hx hlk hret (D d14_30) (by decide) (by decide) (by rw [e0]; exact ⟨rfl, rfl, by simp⟩)
theorem ef_rm_ss_64 (m : MethodId)  : entryFrame m #[(.int (64 : Int32))] 4 = mkF m 0 #[iv (64 : Int32), .unset, .unset, .unset] [] := by first | (simp [entryFrame, mkF, argsToLocals, Value.category]; done) | rfl
set_option maxRecDepth 65536 in
set_option maxHeartbeats 40000000 in
theorem rm_ss_64 {l : Launch} {Z : State} {a0 : Array Value} {A : Nat → Addr} {KC : Nat → Cell} {IC : Nat → Int32} {VC : Nat → Value} (hw : ∀ d ∈ tables_1, d.before a0 Z = true) (G : own_Ctx Z A KC IC VC)   (h0 : Heap) (O0 : Ext Z.heap h0)  :
    Ok l Z own_m12 jdk_33_method_13_code 4 (some .int) ({ frames := 0, cells := 0, slots := 0, locals := 0 } : Room) #[(.int (64 : Int32))] h0
      (fun v h L => v = some (.int (2 : Int32)) ∧ (h = h0) ∧ (L = [])) := by
  refine Ok.mk pn13 ?_
  intro p e s m below meth c T0 hx hby hml hown hnm hret hlk hZ e0 X0
  refine Go.cast (ef_rm_ss_64 m ) ?_
  have D := @hb _ _ hby
  have N0 := Fr.nil Z.heap.size
  have K0 : Keep h0 h0 [] := Keep.refl _ _
  refine Go.of (T' := T0) (f' := (mkF m 39 #[iv (-64 : Int32), iv 0, iv (-100 : Int32), iv 2] [])) (fun _ k => XS.iconst X0.here hx rfl (D d14_0) (XS.istoreN X0.here hx rfl (D d14_1) rfl (l' := #[iv 64, iv 1, .unset, .unset]) rfl (XS.iloadN X0.here hx rfl (D d14_2) rfl (XS.ifNo X0.here hx rfl (D d14_3) rfl ((if0 _ _).trans (flt (by decide : ¬ ((64 : Int32) < (0 : Int32)))).1) (XS.iconst X0.here hx rfl (D d14_6) (XS.istoreN X0.here hx rfl (D d14_7) rfl (l' := #[iv 64, iv 0, .unset, .unset]) rfl (XS.iloadN X0.here hx rfl (D d14_8) rfl (XS.ineg X0.here hx rfl (D d14_9) rfl (XS.istoreN X0.here hx rfl (D d14_10) rfl (l' := #[iv (-64 : Int32), iv 0, .unset, .unset]) rfl (XS.bipush X0.here hx rfl (D d14_11) (XS.istoreN X0.here hx rfl (D d14_13) rfl (l' := #[iv (-64 : Int32), iv 0, iv (-10 : Int32), .unset]) rfl (XS.iconst X0.here hx rfl (D d14_14) (XS.istoreN X0.here hx rfl (D d14_15) rfl (l' := #[iv (-64 : Int32), iv 0, iv (-10 : Int32), iv 1]) rfl (XS.iloadN X0.here hx rfl (D d14_16) rfl (XS.bipush X0.here hx rfl (D d14_17) (XS.icmpNo X0.here hx rfl (D d14_19) rfl (tlt (by decide : (1 : Int32) < (10 : Int32))).2.1 (XS.iloadN X0.here hx rfl (D d14_22) rfl (XS.iloadN X0.here hx rfl (D d14_23) rfl (XS.icmpYes X0.here hx rfl (pc0 := 24) (pc' := 31) rfl (D d14_24) rfl (flt (by decide : ¬ ((-10 : Int32) < (-64 : Int32)))).2.2.2 (by decide) (by decide) (XS.bipush X0.here hx rfl (D d14_31) (XS.iloadN X0.here hx rfl (D d14_33) rfl (XS.imul X0.here hx rfl (D d14_34) rfl (XS.istoreN X0.here hx rfl (D d14_35) rfl (l' := #[iv (-64 : Int32), iv 0, iv (-100 : Int32), iv 1]) rfl (XS.iinc X0.here hx rfl (D d14_36) rfl (l' := #[iv (-64 : Int32), iv 0, iv (-100 : Int32), iv 2]) rfl k)))))))))))))))))))))))) ?_
  refine Go.of (T' := T0) (f' := (mkF m 30 #[iv (-64 : Int32), iv 0, iv (-100 : Int32), iv 2] [(.int 2)])) (fun _ k => XS.goto X0.here hx rfl (pc0 := 39) (pc' := 16) rfl (D d14_39) (by decide) (by decide) (XS.iloadN X0.here hx rfl (D d14_16) rfl (XS.bipush X0.here hx rfl (D d14_17) (XS.icmpNo X0.here hx rfl (D d14_19) rfl (tlt (by decide : (2 : Int32) < (10 : Int32))).2.1 (XS.iloadN X0.here hx rfl (D d14_22) rfl (XS.iloadN X0.here hx rfl (D d14_23) rfl (XS.icmpNo X0.here hx rfl (D d14_24) rfl (tlt (by decide : (-100 : Int32) < (-64 : Int32))).2.2.2 (XS.iloadN X0.here hx rfl (D d14_27) rfl (XS.iloadN X0.here hx rfl (D d14_28) rfl (XS.iadd X0.here hx rfl (D d14_29) rfl k)))))))))) ?_
  exact Go.retI X0 hx hlk hret (D d14_30) (by decide) (by decide) (by rw [e0]; exact ⟨rfl, rfl, by simp⟩)
theorem d20_0 : decode jdk_68_method_68_code 0 = .ok (.getstatic 18, 3) := by decide +kernel
theorem d20_3 : decode jdk_68_method_68_code 3 = .ok (.ifCond .eq 14, 3) := by decide +kernel
theorem d20_6 : decode jdk_68_method_68_code 6 = .ok (.aload_n 0, 1) := by decide +kernel
theorem d20_7 : decode jdk_68_method_68_code 7 = .ok (.getfield 22, 3) := by decide +kernel
theorem d20_10 : decode jdk_68_method_68_code 10 = .ok (.ifCond .ne 7, 3) := by decide +kernel
theorem d20_13 : decode jdk_68_method_68_code 13 = .ok (.iconst 1, 1) := by decide +kernel
theorem d20_14 : decode jdk_68_method_68_code 14 = .ok (.goto 4, 3) := by decide +kernel
theorem d20_18 : decode jdk_68_method_68_code 18 = .ok (.ireturn, 1) := by decide +kernel
abbrev own_m14 : MethodName := (⟨"java/lang/AbstractStringBuilder", "isLatin1", "()Z"⟩ : MethodName)
theorem ef_rm_lat (m : MethodId) (ob : Addr) : entryFrame m #[(.ref ob)] 1 = mkF m 0 #[rv ob] [] := by first | (simp [entryFrame, mkF, argsToLocals, Value.category]; done) | rfl
theorem pn15 : plainFor (⟨"java/lang/AbstractStringBuilder", "isLatin1", "()Z"⟩ : MethodName) = true := by first | exact plainFor_of_name (by first | (simp [plainName, overriddenIn]; done) | decide +kernel) | decide +kernel
set_option maxRecDepth 65536 in
set_option maxHeartbeats 40000000 in
theorem rm_lat {l : Launch} {Z : State} {a0 : Array Value} {A : Nat → Addr} {KC : Nat → Cell} {IC : Nat → Int32} {VC : Nat → Value} (hw : ∀ d ∈ tables_1, d.before a0 Z = true) (G : own_Ctx Z A KC IC VC) (ob : Addr)  (h0 : Heap) (O0 : Ext Z.heap h0) (prem0 : Fld Z h0 ob "java/lang/AbstractStringBuilder" "coder" "B" (.int (0 : Int32))) :
    Ok l Z own_m14 jdk_68_method_68_code 1 (some .boolean) ({ frames := 0, cells := 0, slots := 0, locals := 0 } : Room) #[(.ref ob)] h0
      (fun v h L => v = some (.int (1 : Int32)) ∧ (h = h0) ∧ (L = [])) := by
  refine Ok.mk pn15 ?_
  intro p e s m below meth c T0 hx hby hml hown hnm hret hlk hZ e0 X0
  refine Go.cast (ef_rm_lat m ob) ?_
  obtain ⟨-, -, -, -, -, -, -, -, -, -, -, -, -, -, -, -, -, -, S_COMPACT_STRINGS, hne_s_COMPACT_STRINGS_0, -⟩ := id G
  have D := @hb _ _ hby
  have N0 := Fr.nil Z.heap.size
  have K0 : Keep h0 h0 [] := Keep.refl _ _
  obtain ⟨T44, X44, e44, st44⟩ := getS2 X0 hx hZ hown (host := "") (Or.inl (own_w hw (i := 31) rfl)) Via.refl e0 (Sta.ext O0 S_COMPACT_STRINGS) (g := (mkF m 0 #[rv ob] [])) rfl (D d20_0)
  have hc45 : ¬ ((IC 0) = (0 : Int32)) := hne_s_COMPACT_STRINGS_0
  obtain ⟨T46, X46, e46, st46⟩ := getF X44 hx hZ hown (host := "") (Or.inl (own_w hw (i := 34) rfl)) Via.refl e44 prem0 (g := (mkF m 7 #[rv ob] [(.ref ob)])) rfl rfl (D d20_7)
  refine Go.of (T' := T46) (f' := (mkF m 18 #[rv ob] [(.int 1)])) (fun _ k => st44 _ (XS.ifNo X44.here hx rfl (D d20_3) rfl ((if0 _ _).trans (feq hc45).1) (XS.aloadN X44.here hx rfl (D d20_6) rfl rfl (st46 _ (XS.ifNo X46.here hx rfl (D d20_10) rfl ((if0 _ _).trans (teq (by decide : (0 : Int32) = (0 : Int32))).2) (XS.iconst X46.here hx rfl (D d20_13) (XS.goto X46.here hx rfl (pc0 := 14) (pc' := 18) rfl (D d20_14) (by decide) (by decide) k))))))) ?_
  exact Go.retB X46 hx hlk hret (by simp) (D d20_18) (by decide) (by decide) (z' := (1 : Int32)) rfl (by rw [e46]; exact ⟨rfl, rfl, by simp⟩)
theorem own_set1 (bs : List Int32) (c : Nat) (h : bs.length = c) (x : Int32) : (((bs ++ [(0 : Int32)]).map Value.int).set c (.int x)) = (bs ++ [x]).map Value.int := by
  subst h
  simp
theorem own_set2 (bs : List Int32) (c : Nat) (h : bs.length = c) (x y : Int32) : ((((bs ++ [(0 : Int32), (0 : Int32)]).map Value.int).set (c + 1) (.int y)).set c (.int x)) = (bs ++ [x, y]).map Value.int := by
  subst h
  simp
theorem own_padZ (bs : List Int32) (n i : Nat) : ((bs ++ List.replicate n (0 : Int32)).map Value.int).getD i (.int (0 : Int32)) = (bs.map Value.int).getD i (.int (0 : Int32)) := by
  rw [List.map_append, List.map_replicate]
  exact pad_rep (bs.map Value.int) (.int (0 : Int32)) n i
theorem d25_0 : decode jdk_68_method_64_code 0 = .ok (.aload_n 0, 1) := by decide +kernel
theorem d25_1 : decode jdk_68_method_64_code 1 = .ok (.getfield 15, 3) := by decide +kernel
theorem d25_4 : decode jdk_68_method_64_code 4 = .ok (.areturn, 1) := by decide +kernel
abbrev own_m16 : MethodName := (⟨"java/lang/AbstractStringBuilder", "getValue", "()[B"⟩ : MethodName)
theorem ef_rm_gv (m : MethodId) (ob : Addr) : entryFrame m #[(.ref ob)] 1 = mkF m 0 #[rv ob] [] := by first | (simp [entryFrame, mkF, argsToLocals, Value.category]; done) | rfl
theorem pn17 : plainFor (⟨"java/lang/AbstractStringBuilder", "getValue", "()[B"⟩ : MethodName) = true := by first | exact plainFor_of_name (by first | (simp [plainName, overriddenIn]; done) | decide +kernel) | decide +kernel
set_option maxRecDepth 65536 in
set_option maxHeartbeats 40000000 in
theorem rm_gv {l : Launch} {Z : State} {a0 : Array Value} {A : Nat → Addr} {KC : Nat → Cell} {IC : Nat → Int32} {VC : Nat → Value} (hw : ∀ d ∈ tables_1, d.before a0 Z = true) (G : own_Ctx Z A KC IC VC) (ob : Addr) (va : Addr) (h0 : Heap) (O0 : Ext Z.heap h0) (prem0 : Fld Z h0 ob "java/lang/AbstractStringBuilder" "value" "[B" (.ref va)) :
    Ok l Z own_m16 jdk_68_method_64_code 1 (some (.array .byte)) ({ frames := 0, cells := 0, slots := 0, locals := 0 } : Room) #[(.ref ob)] h0
      (fun v h L => v = some (.ref va) ∧ (h = h0) ∧ (L = [])) := by
  refine Ok.mk pn17 ?_
  intro p e s m below meth c T0 hx hby hml hown hnm hret hlk hZ e0 X0
  refine Go.cast (ef_rm_gv m ob) ?_
  have D := @hb _ _ hby
  have N0 := Fr.nil Z.heap.size
  have K0 : Keep h0 h0 [] := Keep.refl _ _
  obtain ⟨T48, X48, e48, st48⟩ := getF X0 hx hZ hown (host := "") (Or.inl (own_w hw (i := 32) rfl)) Via.refl e0 prem0 (g := (mkF m 1 #[rv ob] [(.ref ob)])) rfl rfl (D d25_1)
  refine Go.of (T' := T48) (f' := (mkF m 4 #[rv ob] [(.ref va)])) (fun _ k => XS.aloadN X0.here hx rfl (D d25_0) rfl rfl (st48 _ k)) ?_
  exact Go.retA X48 hx hlk hret rfl rfl (D d25_4) (by decide) (by decide) (by rw [e48]; exact ⟨rfl, rfl, by simp⟩)
theorem own_gdm (ls : List Int32) (j : Nat) : (ls.map Value.int).getD j (.int (0 : Int32)) = .int (ls.getD j 0) := by
  rw [List.getD_eq_getElem?_getD, List.getElem?_map, List.getD_eq_getElem?_getD]
  cases ls[j]? <;> rfl
theorem own_nneg {i : Int32} (h : 0 ≤ i.toInt) : ¬ i < 0 := fun q => by
  have := Int32.lt_iff_toInt_lt.mp q
  rw [show (0 : Int32).toInt = 0 from rfl] at this
  omega
theorem own_ltN {i n : Int32} {f : Nat} (h : i.toInt + (f + 1 : Nat) = n.toInt) : i < n := Int32.lt_iff_toInt_lt.mpr (by omega)
theorem own_geN {i n : Int32} (h : i.toInt + (0 : Nat) = n.toInt) : ¬ i < n := fun q => by
  have := Int32.lt_iff_toInt_lt.mp q
  omega
theorem own_incN {i n : Int32} {f : Nat} (h0 : 0 ≤ i.toInt) (h : i.toInt + (f + 1 : Nat) = n.toInt) : (i + 1).toInt = i.toInt + 1 := by
  have r1 := rng32 i
  have r2 := rng32 n
  have r3 := rng32 (i + 1)
  have q := c_iadd i 1
  rw [show (1 : Int32).toInt = 1 from rfl] at q
  omega
theorem own_hi1 {i n : Int32} {f : Nat} (h0 : 0 ≤ i.toInt) (h : i.toInt + (f + 1 : Nat) = n.toInt) : 0 ≤ (i + 1).toInt := by rw [own_incN h0 h]; omega
theorem own_hf1 {i n : Int32} {f : Nat} (h0 : 0 ≤ i.toInt) (h : i.toInt + (f + 1 : Nat) = n.toInt) : (i + 1).toInt + f = n.toInt := by rw [own_incN h0 h]; omega
theorem own_hn0 {n : Int32} (h : ¬ n < 0) : (0 : Int32).toInt + (n.toInt.toNat : Nat) = n.toInt := by
  have : ¬ n.toInt < 0 := fun q => h (Int32.lt_iff_toInt_lt.mpr q)
  rw [show (0 : Int32).toInt = 0 from rfl]
  omega
abbrev own_m18 : MethodName := (⟨"java/lang/StringLatin1", "equals", "([B[B)Z"⟩ : MethodName)
theorem d32_9 : decode jdk_43_method_13_code 9 = .ok (.iload_n 2, 1) := by decide +kernel
theorem d32_10 : decode jdk_43_method_13_code 10 = .ok (.aload_n 0, 1) := by decide +kernel
theorem d32_11 : decode jdk_43_method_13_code 11 = .ok (.arraylength, 1) := by decide +kernel
theorem d32_12 : decode jdk_43_method_13_code 12 = .ok (.if_icmp .ge 20, 3) := by decide +kernel
theorem d32_32 : decode jdk_43_method_13_code 32 = .ok (.iconst 1, 1) := by decide +kernel
theorem d32_33 : decode jdk_43_method_13_code 33 = .ok (.ireturn, 1) := by decide +kernel
theorem d32_15 : decode jdk_43_method_13_code 15 = .ok (.aload_n 0, 1) := by decide +kernel
theorem d32_16 : decode jdk_43_method_13_code 16 = .ok (.iload_n 2, 1) := by decide +kernel
theorem d32_17 : decode jdk_43_method_13_code 17 = .ok (.baload, 1) := by decide +kernel
theorem d32_18 : decode jdk_43_method_13_code 18 = .ok (.aload_n 1, 1) := by decide +kernel
theorem d32_19 : decode jdk_43_method_13_code 19 = .ok (.iload_n 2, 1) := by decide +kernel
theorem d32_20 : decode jdk_43_method_13_code 20 = .ok (.baload, 1) := by decide +kernel
theorem d32_21 : decode jdk_43_method_13_code 21 = .ok (.if_icmp .eq 5, 3) := by decide +kernel
theorem d32_26 : decode jdk_43_method_13_code 26 = .ok (.iinc 2 1, 3) := by decide +kernel
theorem d32_29 : decode jdk_43_method_13_code 29 = .ok (.goto (-20), 3) := by decide +kernel
set_option maxRecDepth 65536 in
set_option maxHeartbeats 40000000 in
theorem rm_l1L {l : Launch} {Z : State} {a0 : Array Value} {A : Nat → Addr} {KC : Nat → Cell} {IC : Nat → Int32} {VC : Nat → Value} (hw : ∀ d ∈ tables_1, d.before a0 Z = true) (G : own_Ctx Z A KC IC VC) {p : Program} {e : Env} {s : State} {m : MethodId} {below : List Frame} {meth : Method} {c : Code} {h0 : Heap} (sv : Addr) (sw : Addr) (n : Int32) (ts : List Int32) (ks : ClassId) (kw : ClassId) (prem2 : ¬ n < 0)
    (hx : p.tables.exec = Jvm.exec) (hby : c.code = jdk_43_method_13_code) (hml : c.maxLocals = 3) (hown : s.vm.findClass "java/lang/StringLatin1" = some m.cls) (hret : meth.sig.returnType = (some .boolean)) (hlk : meth.locks = false) (hZ : Z.Warmed39 s.vm) :
    ∀ (fuel : Nat) (i : Int32) (T0 : State) (h1 : Heap) (locs0 : List Loc) (hi : 0 ≤ i.toInt) (hf : i.toInt + (fuel : Nat) = n.toInt) (e0 : T0.heap = h1) (X0 : Stand p l e ({ frames := 0, cells := 0, slots := 0, locals := 0 } : Room) s m #[(.ref sv), (.ref sw)] below meth c T0 locs0 0 0) (N0 : Fr Z.heap.size locs0) (K0 : Keep h0 h1 []) (O0 : Ext Z.heap h1) (lf0 : Arv Z h1 sv ks .byte n (ts.map Value.int) (.int (0 : Int32))) (lf1 : Arv Z h1 sw kw .byte n (ts.map Value.int) (.int (0 : Int32))),
      Go p e s below ({ frames := 0, cells := 0, slots := 0, locals := 0 } : Room) (fun v h L => v = some (.int (1 : Int32)) ∧ (Fr Z.heap.size L) ∧ (Keep h0 h [])) T0 (mkF m 9 #[rv sv, rv sw, iv i] []) := by
  have D := @hb _ _ hby
  intro fuel
  induction fuel with
  | zero =>
    intro i T0 h1 locs0 hi hf e0 X0 N0 K0 O0 lf0 lf1
    obtain ⟨cl49, Ar49, qk49, S49, Ng49, H49, G49⟩ := id lf0
    have hc50 : ¬ (i < n) := own_geN hf
    refine Go.of (T' := T0) (f' := (mkF m 33 #[rv sv, rv sw, iv i] [(.int 1)])) (fun _ k => XS.iloadN X0.here hx rfl (D d32_9) rfl (XS.aloadN X0.here hx rfl (D d32_10) rfl rfl (X0.arraylength hx (by rw [e0]; exact Ar49.1) (State.isArrayOf_alike hZ.alike Ar49.2.1) (g := (mkF m 11 #[rv sv, rv sw, iv i] [(.ref sv), (.int i)])) rfl rfl (D d32_11) _ (by rw [len_of S49 Ng49]; exact (XS.icmpYes X0.here hx rfl (pc0 := 12) (pc' := 32) rfl (D d32_12) rfl (flt hc50).2.1 (by decide) (by decide) (XS.iconst X0.here hx rfl (D d32_32) k)))))) ?_
    exact Go.retB X0 hx hlk hret (by simp) (D d32_33) (by decide) (by decide) (z' := (1 : Int32)) rfl (by rw [e0]; exact ⟨rfl, N0, K0⟩)
  | succ fuel ih =>
    intro i T0 h1 locs0 hi hf e0 X0 N0 K0 O0 lf0 lf1
    obtain ⟨cl51, Ar51, qk51, S51, Ng51, H51, G51⟩ := id lf0
    have hc52 : i < n := own_ltN hf
    obtain ⟨cl53, Ar53, qk53, S53, Ng53, H53, G53⟩ := id lf0
    have hin53 := inb_of (j := i) S53 ⟨own_nneg hi, own_ltN hf⟩
    obtain ⟨cl54, Ar54, qk54, S54, Ng54, H54, G54⟩ := id lf1
    have hin54 := inb_of (j := i) S54 ⟨own_nneg hi, own_ltN hf⟩
    have hc55 : (ts.getD i.toNatClampNeg 0) = (ts.getD i.toNatClampNeg 0) := rfl
    refine Go.of (T' := T0) (f' := (mkF m 9 #[rv sv, rv sw, iv (i + (1 : Int32))] [])) (fun _ k => XS.iloadN X0.here hx rfl (D d32_9) rfl (XS.aloadN X0.here hx rfl (D d32_10) rfl rfl (X0.arraylength hx (by rw [e0]; exact Ar51.1) (State.isArrayOf_alike hZ.alike Ar51.2.1) (g := (mkF m 11 #[rv sv, rv sw, iv i] [(.ref sv), (.int i)])) rfl rfl (D d32_11) _ (by rw [len_of S51 Ng51]; exact (XS.icmpNo X0.here hx rfl (D d32_12) rfl (tlt hc52).2.1 (XS.aloadN X0.here hx rfl (D d32_15) rfl rfl (XS.iloadN X0.here hx rfl (D d32_16) rfl (X0.baloadBytes hx (j := i) (v := (.int (ts.getD i.toNatClampNeg 0))) (by rw [e0]; exact Ar53.1) (State.isArrayOf_alike hZ.alike Ar53.2.1) Ar53.2.2 hin53 (H53.at hin53 (own_gdm ts _)) (g := (mkF m 17 #[rv sv, rv sw, iv i] [(.int i), (.ref sv)])) rfl rfl (D d32_17) _ (XS.aloadN X0.here hx rfl (D d32_18) rfl rfl (XS.iloadN X0.here hx rfl (D d32_19) rfl (X0.baloadBytes hx (j := i) (v := (.int (ts.getD i.toNatClampNeg 0))) (by rw [e0]; exact Ar54.1) (State.isArrayOf_alike hZ.alike Ar54.2.1) Ar54.2.2 hin54 (H54.at hin54 (own_gdm ts _)) (g := (mkF m 20 #[rv sv, rv sw, iv i] [(.int i), (.ref sw), (.int (ts.getD i.toNatClampNeg 0))])) rfl rfl (D d32_20) _ (XS.icmpYes X0.here hx rfl (pc0 := 21) (pc' := 26) rfl (D d32_21) rfl (teq hc55).1 (by decide) (by decide) (XS.iinc X0.here hx rfl (D d32_26) rfl (l' := #[rv sv, rv sw, iv (i + (1 : Int32))]) rfl (XS.goto X0.here hx rfl (pc0 := 29) (pc' := 9) rfl (D d32_29) (by decide) (by decide) k)))))))))))))) ?_
    exact ih ((i + (1 : Int32))) T0 h1 _ (own_hi1 hi hf) (own_hf1 hi hf) e0 X0 N0 K0 O0 (lf0) (lf1)
theorem d32_0 : decode jdk_43_method_13_code 0 = .ok (.aload_n 0, 1) := by decide +kernel
theorem d32_1 : decode jdk_43_method_13_code 1 = .ok (.arraylength, 1) := by decide +kernel
theorem d32_2 : decode jdk_43_method_13_code 2 = .ok (.aload_n 1, 1) := by decide +kernel
theorem d32_3 : decode jdk_43_method_13_code 3 = .ok (.arraylength, 1) := by decide +kernel
theorem d32_4 : decode jdk_43_method_13_code 4 = .ok (.if_icmp .ne 30, 3) := by decide +kernel
theorem d32_7 : decode jdk_43_method_13_code 7 = .ok (.iconst 0, 1) := by decide +kernel
theorem d32_8 : decode jdk_43_method_13_code 8 = .ok (.istore_n 2, 1) := by decide +kernel
theorem ef_rm_l1 (m : MethodId) (sv : Addr) (sw : Addr) : entryFrame m #[(.ref sv), (.ref sw)] 3 = mkF m 0 #[rv sv, rv sw, .unset] [] := by first | (simp [entryFrame, mkF, argsToLocals, Value.category]; done) | rfl
theorem pn19 : plainFor (⟨"java/lang/StringLatin1", "equals", "([B[B)Z"⟩ : MethodName) = true := by first | exact plainFor_of_name (by first | (simp [plainName, overriddenIn]; done) | decide +kernel) | decide +kernel
set_option maxRecDepth 65536 in
set_option maxHeartbeats 40000000 in
theorem rm_l1 {l : Launch} {Z : State} {a0 : Array Value} {A : Nat → Addr} {KC : Nat → Cell} {IC : Nat → Int32} {VC : Nat → Value} (hw : ∀ d ∈ tables_1, d.before a0 Z = true) (G : own_Ctx Z A KC IC VC) (sv : Addr) (sw : Addr) (n : Int32) (ts : List Int32) (ks : ClassId) (kw : ClassId) (h0 : Heap) (O0 : Ext Z.heap h0) (prem0 : Arv Z h0 sv ks .byte n (ts.map Value.int) (.int (0 : Int32))) (prem1 : Arv Z h0 sw kw .byte n (ts.map Value.int) (.int (0 : Int32))) (prem2 : ¬ n < 0) :
    Ok l Z own_m18 jdk_43_method_13_code 3 (some .boolean) ({ frames := 0, cells := 0, slots := 0, locals := 0 } : Room) #[(.ref sv), (.ref sw)] h0
      (fun v h L => v = some (.int (1 : Int32)) ∧ (Fr Z.heap.size L) ∧ (Keep h0 h [])) := by
  refine Ok.mk pn19 ?_
  intro p e s m below meth c T0 hx hby hml hown hnm hret hlk hZ e0 X0
  refine Go.cast (ef_rm_l1 m sv sw) ?_
  have D := @hb _ _ hby
  have N0 := Fr.nil Z.heap.size
  have K0 : Keep h0 h0 [] := Keep.refl _ _
  obtain ⟨cl56, Ar56, qk56, S56, Ng56, H56, G56⟩ := id prem0
  obtain ⟨cl57, Ar57, qk57, S57, Ng57, H57, G57⟩ := id prem1
  have hc58 : n = n := rfl
  refine Go.of (T' := T0) (f' := (mkF m 9 #[rv sv, rv sw, iv 0] [])) (fun _ k => XS.aloadN X0.here hx rfl (D d32_0) rfl rfl (X0.arraylength hx (by rw [e0]; exact Ar56.1) (State.isArrayOf_alike hZ.alike Ar56.2.1) (g := (mkF m 1 #[rv sv, rv sw, .unset] [(.ref sv)])) rfl rfl (D d32_1) _ (by rw [len_of S56 Ng56]; exact (XS.aloadN X0.here hx rfl (D d32_2) rfl rfl (X0.arraylength hx (by rw [e0]; exact Ar57.1) (State.isArrayOf_alike hZ.alike Ar57.2.1) (g := (mkF m 3 #[rv sv, rv sw, .unset] [(.ref sw), (.int n)])) rfl rfl (D d32_3) _ (by rw [len_of S57 Ng57]; exact (XS.icmpNo X0.here hx rfl (D d32_4) rfl (teq hc58).2 (XS.iconst X0.here hx rfl (D d32_7) (XS.istoreN X0.here hx rfl (D d32_8) rfl (l' := #[rv sv, rv sw, iv 0]) rfl k))))))))) ?_
  exact rm_l1L hw G sv sw n ts ks kw prem2 hx hby hml hown hret hlk hZ n.toInt.toNat 0 T0 h0 _ (by decide) (own_hn0 prem2) e0 X0 N0 K0 O0 prem0 prem1
theorem d31_0 : decode jdk_42_method_66_code 0 = .ok (.aload_n 0, 1) := by decide +kernel
theorem d31_1 : decode jdk_42_method_66_code 1 = .ok (.aload_n 1, 1) := by decide +kernel
theorem d31_2 : decode jdk_42_method_66_code 2 = .ok (.if_acmp .ne 5, 3) := by decide +kernel
theorem d31_5 : decode jdk_42_method_66_code 5 = .ok (.iconst 1, 1) := by decide +kernel
theorem d31_6 : decode jdk_42_method_66_code 6 = .ok (.ireturn, 1) := by decide +kernel
theorem d31_7 : decode jdk_42_method_66_code 7 = .ok (.aload_n 1, 1) := by decide +kernel
theorem d31_8 : decode jdk_42_method_66_code 8 = .ok (.instanceof 10, 3) := by decide +kernel
theorem d31_11 : decode jdk_42_method_66_code 11 = .ok (.ifCond .eq 43, 3) := by decide +kernel
theorem d31_14 : decode jdk_42_method_66_code 14 = .ok (.aload_n 1, 1) := by decide +kernel
theorem d31_15 : decode jdk_42_method_66_code 15 = .ok (.checkcast 10, 3) := by decide +kernel
theorem d31_18 : decode jdk_42_method_66_code 18 = .ok (.astore_n 2, 1) := by decide +kernel
theorem d31_19 : decode jdk_42_method_66_code 19 = .ok (.getstatic 38, 3) := by decide +kernel
theorem d31_22 : decode jdk_42_method_66_code 22 = .ok (.ifCond .eq 14, 3) := by decide +kernel
theorem d31_25 : decode jdk_42_method_66_code 25 = .ok (.aload_n 0, 1) := by decide +kernel
theorem d31_26 : decode jdk_42_method_66_code 26 = .ok (.getfield 15, 3) := by decide +kernel
theorem d31_29 : decode jdk_42_method_66_code 29 = .ok (.aload_n 2, 1) := by decide +kernel
theorem d31_30 : decode jdk_42_method_66_code 30 = .ok (.getfield 15, 3) := by decide +kernel
theorem d31_33 : decode jdk_42_method_66_code 33 = .ok (.if_icmp .ne 21, 3) := by decide +kernel
theorem d31_36 : decode jdk_42_method_66_code 36 = .ok (.aload_n 0, 1) := by decide +kernel
theorem d31_37 : decode jdk_42_method_66_code 37 = .ok (.getfield 9, 3) := by decide +kernel
theorem d31_40 : decode jdk_42_method_66_code 40 = .ok (.aload_n 2, 1) := by decide +kernel
theorem d31_41 : decode jdk_42_method_66_code 41 = .ok (.getfield 9, 3) := by decide +kernel
theorem d31_44 : decode jdk_42_method_66_code 44 = .ok (.invokestatic 541, 3) := by decide +kernel
theorem pd20 : parseMethodDescriptor "([B[B)Z" = some ⟨[(.array .byte), (.array .byte)], some .boolean⟩ := by decide +kernel
theorem d31_47 : decode jdk_42_method_66_code 47 = .ok (.ifCond .eq 7, 3) := by decide +kernel
theorem d31_50 : decode jdk_42_method_66_code 50 = .ok (.iconst 1, 1) := by decide +kernel
theorem d31_51 : decode jdk_42_method_66_code 51 = .ok (.goto 4, 3) := by decide +kernel
theorem d31_55 : decode jdk_42_method_66_code 55 = .ok (.ireturn, 1) := by decide +kernel
abbrev own_m21 : MethodName := (⟨"java/lang/String", "equals", "(Ljava/lang/Object;)Z"⟩ : MethodName)
theorem ef_rm_eq (m : MethodId) (so : Addr) (sp : Addr) : entryFrame m #[(.ref so), (.ref sp)] 3 = mkF m 0 #[rv so, rv sp, .unset] [] := by first | (simp [entryFrame, mkF, argsToLocals, Value.category]; done) | rfl
theorem pn22 : plainFor (⟨"java/lang/String", "equals", "(Ljava/lang/Object;)Z"⟩ : MethodName) = true := by first | exact plainFor_of_name (by first | (simp [plainName, overriddenIn]; done) | decide +kernel) | decide +kernel
set_option maxRecDepth 65536 in
set_option maxHeartbeats 40000000 in
theorem rm_eq {l : Launch} {Z : State} {a0 : Array Value} {A : Nat → Addr} {KC : Nat → Cell} {IC : Nat → Int32} {VC : Nat → Value} (hw : ∀ d ∈ tables_1, d.before a0 Z = true) (G : own_Ctx Z A KC IC VC) (so : Addr) (sp : Addr) (sv : Addr) (sw : Addr) (n : Int32) (ts : List Int32) (ks : ClassId) (kw : ClassId) (h0 : Heap) (O0 : Ext Z.heap h0) (prem0 : Exa Z h0 so "java/lang/String") (prem1 : Exa Z h0 sp "java/lang/String") (prem2 : Fld Z h0 so "java/lang/String" "value" "[B" (.ref sv)) (prem3 : Fld Z h0 so "java/lang/String" "coder" "B" (.int (0 : Int32))) (prem4 : Fld Z h0 sp "java/lang/String" "value" "[B" (.ref sw)) (prem5 : Fld Z h0 sp "java/lang/String" "coder" "B" (.int (0 : Int32))) (prem6 : Arv Z h0 sv ks .byte n (ts.map Value.int) (.int (0 : Int32))) (prem7 : Arv Z h0 sw kw .byte n (ts.map Value.int) (.int (0 : Int32))) (prem8 : ¬ n < 0) :
    Ok l Z own_m21 jdk_42_method_66_code 3 (some .boolean) ({ frames := 1, cells := 0, slots := 0, locals := 14 } : Room) #[(.ref so), (.ref sp)] h0
      (fun v h L => v = some (.int (1 : Int32)) ∧ (Fr Z.heap.size L) ∧ (Keep h0 h [])) := by
  refine Ok.mk pn22 ?_
  intro p e s m below meth c T0 hx hby hml hown hnm hret hlk hZ e0 X0
  refine Go.cast (ef_rm_eq m so sp) ?_
  obtain ⟨-, -, -, -, -, -, -, -, -, -, -, -, -, -, -, -, -, -, S_COMPACT_STRINGS, hne_s_COMPACT_STRINGS_0, -⟩ := id G
  have D := @hb _ _ hby
  have N0 := Fr.nil Z.heap.size
  have K0 : Keep h0 h0 [] := Keep.refl _ _
  refine Go.of (T' := T0) (f' := (mkF m 2 #[rv so, rv sp, .unset] [(.ref sp), (.ref so)])) (fun _ k => XS.aloadN X0.here hx rfl (D d31_0) rfl rfl (XS.aloadN X0.here hx rfl (D d31_1) rfl rfl k)) ?_
  by_cases hc59 : so = sp
  · skip
    refine Go.of (T' := T0) (f' := (mkF m 6 #[rv so, rv sp, .unset] [(.int 1)])) (fun _ k => Jvm.RoadKit.acmp (g := (mkF m 2 #[rv so, rv sp, .unset] [(.ref sp), (.ref so)])) X0 hx rfl rfl rfl (pc0 := 2) (pc' := 5) (same := true) rfl (D d31_2) rfl (decide_eq_true (congrArg Value.ref hc59)) (by decide) (by decide) (XS.iconst X0.here hx rfl (D d31_5) k)) ?_
    exact Go.retB X0 hx hlk hret (by simp) (D d31_6) (by decide) (by decide) (z' := (1 : Int32)) rfl (by rw [e0]; exact ⟨rfl, N0, K0⟩)
  · skip
    obtain ⟨T60, X60, e60, st60⟩ := instY X0 hx hZ hown (own_w hw (i := 185) rfl) e0 (Ins.self prem1) (g := (mkF m 8 #[rv so, rv sp, .unset] [(.ref sp)])) rfl rfl (D d31_8)
    obtain ⟨T62, X62, e62, st62⟩ := castY X60 hx hZ hown (own_w hw (i := 185) rfl) e60 (Ins.self prem1) (g := (mkF m 15 #[rv so, rv sp, .unset] [(.ref sp)])) rfl rfl (D d31_15)
    obtain ⟨T63, X63, e63, st63⟩ := getS2 X62 hx hZ hown (host := "") (Or.inl (own_w hw (i := 58) rfl)) Via.refl e62 (Sta.ext O0 S_COMPACT_STRINGS) (g := (mkF m 19 #[rv so, rv sp, rv sp] [])) rfl (D d31_19)
    have hc64 : ¬ ((IC 0) = (0 : Int32)) := hne_s_COMPACT_STRINGS_0
    obtain ⟨T65, X65, e65, st65⟩ := getF X63 hx hZ hown (host := "") (Or.inl (own_w hw (i := 59) rfl)) Via.refl e63 prem3 (g := (mkF m 26 #[rv so, rv sp, rv sp] [(.ref so)])) rfl rfl (D d31_26)
    obtain ⟨T66, X66, e66, st66⟩ := getF X65 hx hZ hown (host := "") (Or.inl (own_w hw (i := 59) rfl)) Via.refl e65 prem5 (g := (mkF m 30 #[rv so, rv sp, rv sp] [(.ref sp), (.int 0)])) rfl rfl (D d31_30)
    obtain ⟨T68, X68, e68, st68⟩ := getF X66 hx hZ hown (host := "") (Or.inl (own_w hw (i := 52) rfl)) Via.refl e66 prem2 (g := (mkF m 37 #[rv so, rv sp, rv sp] [(.ref so)])) rfl rfl (D d31_37)
    obtain ⟨T69, X69, e69, st69⟩ := getF X68 hx hZ hown (host := "") (Or.inl (own_w hw (i := 52) rfl)) Via.refl e68 prem4 (g := (mkF m 41 #[rv so, rv sp, rv sp] [(.ref sp), (.ref sv)])) rfl rfl (D d31_41)
    obtain ⟨T70, v70, L70, X70, q70, st70⟩ := callSt X69 hx hZ (y := own_m18) hown (own_w hw (i := 186) rfl) (own_w hw (i := 187) rfl) (own_w hw (i := 188) rfl) (own_w hw (i := 189) rfl) (by decide) (rm_l1 hw G sv sw n ts ks kw h0 O0 prem6 prem7 (prem8)) e69 (W := 0) (by decide) (by decide) (by decide) (by decide) (g := (mkF m 44 #[rv so, rv sp, rv sp] [(.ref sw), (.ref sv)])) rfl (by rw [hml]; rfl) (argsL := [(.ref sv), (.ref sw)]) (rest := []) (lenOf pd20 rfl) rfl rfl (Nat.le_of_eq rfl) (D d31_44)
    obtain ⟨rfl, N70q, K70q⟩ := q70
    have N70 := Fr.app N0 N70q
    have O71 := Old0.keep O0 K70q all0
    have K71 := Keep.trans K0 K70q all0
    refine Go.of (T' := T70) (f' := (mkF m 55 #[rv so, rv sp, rv sp] [(.int 1)])) (fun _ k => Jvm.RoadKit.acmp (g := (mkF m 2 #[rv so, rv sp, .unset] [(.ref sp), (.ref so)])) X0 hx rfl rfl rfl (pc0 := 2) (pc' := 7) (same := false) rfl (D d31_2) rfl (decide_eq_false fun q => hc59 (Value.ref.inj q)) (by decide) (by decide) (XS.aloadN X0.here hx rfl (D d31_7) rfl rfl (st60 _ (XS.ifNo X60.here hx rfl (D d31_11) rfl ((if0 _ _).trans (feq (by decide : ¬ ((1 : Int32) = (0 : Int32)))).1) (XS.aloadN X60.here hx rfl (D d31_14) rfl rfl (st62 _ (XS.astoreN X62.here hx rfl (D d31_18) rfl rfl (l' := #[rv so, rv sp, rv sp]) rfl (st63 _ (XS.ifNo X63.here hx rfl (D d31_22) rfl ((if0 _ _).trans (feq hc64).1) (XS.aloadN X63.here hx rfl (D d31_25) rfl rfl (st65 _ (XS.aloadN X65.here hx rfl (D d31_29) rfl rfl (st66 _ (XS.icmpNo X66.here hx rfl (D d31_33) rfl (teq (by decide : (0 : Int32) = (0 : Int32))).2 (XS.aloadN X66.here hx rfl (D d31_36) rfl rfl (st68 _ (XS.aloadN X68.here hx rfl (D d31_40) rfl rfl (st69 _ (st70 _ (XS.ifNo X70.here hx rfl (D d31_47) rfl ((if0 _ _).trans (feq (by decide : ¬ ((1 : Int32) = (0 : Int32)))).1) (XS.iconst X70.here hx rfl (D d31_50) (XS.goto X70.here hx rfl (pc0 := 51) (pc' := 55) rfl (D d31_51) (by decide) (by decide) k)))))))))))))))))))))) ?_
    exact Go.retB X70 hx hlk hret (by simp) (D d31_55) (by decide) (by decide) (z' := (1 : Int32)) rfl ⟨rfl, N70, K71⟩
theorem d8_0 : decode jdk_68_method_9_code 0 = .ok (.aload_n 0, 1) := by decide +kernel
theorem d8_1 : decode jdk_68_method_9_code 1 = .ok (.getfield 15, 3) := by decide +kernel
theorem d8_4 : decode jdk_68_method_9_code 4 = .ok (.arraylength, 1) := by decide +kernel
theorem d8_5 : decode jdk_68_method_9_code 5 = .ok (.aload_n 0, 1) := by decide +kernel
theorem d8_6 : decode jdk_68_method_9_code 6 = .ok (.getfield 22, 3) := by decide +kernel
theorem d8_9 : decode jdk_68_method_9_code 9 = .ok (.ishr, 1) := by decide +kernel
theorem d8_10 : decode jdk_68_method_9_code 10 = .ok (.istore_n 2, 1) := by decide +kernel
theorem d8_11 : decode jdk_68_method_9_code 11 = .ok (.iload_n 1, 1) := by decide +kernel
theorem d8_12 : decode jdk_68_method_9_code 12 = .ok (.iload_n 2, 1) := by decide +kernel
theorem d8_13 : decode jdk_68_method_9_code 13 = .ok (.isub, 1) := by decide +kernel
theorem d8_14 : decode jdk_68_method_9_code 14 = .ok (.ifCond .le 24, 3) := by decide +kernel
theorem d8_38 : decode jdk_68_method_9_code 38 = .ok (.return_, 1) := by decide +kernel
abbrev own_m23 : MethodName := (⟨"java/lang/AbstractStringBuilder", "ensureCapacityInternal", "(I)V"⟩ : MethodName)
theorem ef_rm_ecf_2_16 (m : MethodId) (ob : Addr) : entryFrame m #[(.ref ob), (.int (2 : Int32))] 3 = mkF m 0 #[rv ob, iv (2 : Int32), .unset] [] := by first | (simp [entryFrame, mkF, argsToLocals, Value.category]; done) | rfl
theorem pn24 : plainFor (⟨"java/lang/AbstractStringBuilder", "ensureCapacityInternal", "(I)V"⟩ : MethodName) = true := by first | exact plainFor_of_name (by first | (simp [plainName, overriddenIn]; done) | decide +kernel) | decide +kernel
set_option maxRecDepth 65536 in
set_option maxHeartbeats 40000000 in
theorem rm_ecf_2_16 {l : Launch} {Z : State} {a0 : Array Value} {A : Nat → Addr} {KC : Nat → Cell} {IC : Nat → Int32} {VC : Nat → Value} (hw : ∀ d ∈ tables_1, d.before a0 Z = true) (G : own_Ctx Z A KC IC VC) (ob : Addr) (va : Addr) (kv : ClassId) (bs : List Int32) (h0 : Heap) (O0 : Ext Z.heap h0) (prem0 : Exa Z h0 ob "java/lang/StringBuilder") (prem1 : Fld Z h0 ob "java/lang/AbstractStringBuilder" "value" "[B" (.ref va)) (prem2 : Fld Z h0 ob "java/lang/AbstractStringBuilder" "coder" "B" (.int (0 : Int32))) (prem3 : Arv Z h0 va kv .byte (16 : Int32) (bs.map Value.int) (.int (0 : Int32))) :
    Ok l Z own_m23 jdk_68_method_9_code 3 none ({ frames := 0, cells := 0, slots := 0, locals := 0 } : Room) #[(.ref ob), (.int (2 : Int32))] h0
      (fun v h L => v = none ∧ (h = h0) ∧ (L = [])) := by
  refine Ok.mk pn24 ?_
  intro p e s m below meth c T0 hx hby hml hown hnm hret hlk hZ e0 X0
  refine Go.cast (ef_rm_ecf_2_16 m ob) ?_
  have D := @hb _ _ hby
  have N0 := Fr.nil Z.heap.size
  have K0 : Keep h0 h0 [] := Keep.refl _ _
  obtain ⟨T73, X73, e73, st73⟩ := getF X0 hx hZ hown (host := "") (Or.inl (own_w hw (i := 32) rfl)) Via.refl e0 prem1 (g := (mkF m 1 #[rv ob, iv 2, .unset] [(.ref ob)])) rfl rfl (D d8_1)
  obtain ⟨cl74, Ar74, qk74, S74, Ng74, H74, G74⟩ := id prem3
  obtain ⟨T75, X75, e75, st75⟩ := getF X73 hx hZ hown (host := "") (Or.inl (own_w hw (i := 34) rfl)) Via.refl e73 prem2 (g := (mkF m 6 #[rv ob, iv 2, .unset] [(.ref ob), (.int 16)])) rfl rfl (D d8_6)
  refine Go.of (T' := T75) (f' := (mkF m 38 #[rv ob, iv 2, iv 16] [])) (fun _ k => XS.aloadN X0.here hx rfl (D d8_0) rfl rfl (st73 _ (X73.arraylength hx (by rw [e73]; exact Ar74.1) (State.isArrayOf_alike hZ.alike Ar74.2.1) (g := (mkF m 4 #[rv ob, iv 2, .unset] [(.ref va)])) rfl rfl (D d8_4) _ (by rw [len_of S74 Ng74]; exact (XS.aloadN X73.here hx rfl (D d8_5) rfl rfl (st75 _ (XS.ishr X75.here hx rfl (D d8_9) rfl (XS.istoreN X75.here hx rfl (D d8_10) rfl (l' := #[rv ob, iv 2, iv 16]) rfl (XS.iloadN X75.here hx rfl (D d8_11) rfl (XS.iloadN X75.here hx rfl (D d8_12) rfl (XS.isub X75.here hx rfl (D d8_13) rfl (XS.ifYes X75.here hx rfl (pc0 := 14) (pc' := 38) rfl (D d8_14) rfl ((if0 _ _).trans (flt (by decide : ¬ ((0 : Int32) < (-14 : Int32)))).2.2.2) (by decide) (by decide) k)))))))))))) ?_
  exact Go.retV X75 hx hlk hret (D d8_38) (by decide) (by decide) (by rw [e75]; exact ⟨rfl, rfl, by simp⟩)
theorem d11_0 : decode jdk_42_method_147_code 0 = .ok (.aload_n 0, 1) := by decide +kernel
theorem d11_1 : decode jdk_42_method_147_code 1 = .ok (.invokevirtual 335, 3) := by decide +kernel
theorem d11_4 : decode jdk_42_method_147_code 4 = .ok (.iload_n 3, 1) := by decide +kernel
theorem d11_5 : decode jdk_42_method_147_code 5 = .ok (.if_icmp .ne 23, 3) := by decide +kernel
theorem d11_8 : decode jdk_42_method_147_code 8 = .ok (.aload_n 0, 1) := by decide +kernel
theorem d11_9 : decode jdk_42_method_147_code 9 = .ok (.getfield 9, 3) := by decide +kernel
theorem d11_12 : decode jdk_42_method_147_code 12 = .ok (.iconst 0, 1) := by decide +kernel
theorem d11_13 : decode jdk_42_method_147_code 13 = .ok (.aload_n 1, 1) := by decide +kernel
theorem d11_14 : decode jdk_42_method_147_code 14 = .ok (.iload_n 2, 1) := by decide +kernel
theorem d11_15 : decode jdk_42_method_147_code 15 = .ok (.iload_n 3, 1) := by decide +kernel
theorem d11_16 : decode jdk_42_method_147_code 16 = .ok (.ishl, 1) := by decide +kernel
theorem d11_17 : decode jdk_42_method_147_code 17 = .ok (.aload_n 0, 1) := by decide +kernel
theorem d11_18 : decode jdk_42_method_147_code 18 = .ok (.getfield 9, 3) := by decide +kernel
theorem d11_21 : decode jdk_42_method_147_code 21 = .ok (.arraylength, 1) := by decide +kernel
theorem d11_22 : decode jdk_42_method_147_code 22 = .ok (.invokestatic 212, 3) := by decide +kernel
theorem d11_25 : decode jdk_42_method_147_code 25 = .ok (.goto 18, 3) := by decide +kernel
theorem d11_43 : decode jdk_42_method_147_code 43 = .ok (.return_, 1) := by decide +kernel
abbrev own_m25 : MethodName := (⟨"java/lang/String", "getBytes", "([BIB)V"⟩ : MethodName)
theorem ef_rm_getb_0_2_16 (m : MethodId) (so : Addr) (va : Addr) : entryFrame m #[(.ref so), (.ref va), (.int (0 : Int32)), (.int (0 : Int32))] 4 = mkF m 0 #[rv so, rv va, iv (0 : Int32), iv (0 : Int32)] [] := by first | (simp [entryFrame, mkF, argsToLocals, Value.category]; done) | rfl
theorem pn26 : plainFor (⟨"java/lang/String", "getBytes", "([BIB)V"⟩ : MethodName) = true := by first | exact plainFor_of_name (by first | (simp [plainName, overriddenIn]; done) | decide +kernel) | decide +kernel
set_option maxRecDepth 65536 in
set_option maxHeartbeats 40000000 in
theorem rm_getb_0_2_16 {l : Launch} {Z : State} {a0 : Array Value} {A : Nat → Addr} {KC : Nat → Cell} {IC : Nat → Int32} {VC : Nat → Value} (hw : ∀ d ∈ tables_1, d.before a0 Z = true) (G : own_Ctx Z A KC IC VC) (so : Addr) (va : Addr) (sv : Addr) (ks : ClassId) (ts : List Int32) (kv : ClassId) (bs : List Int32) (h0 : Heap) (O0 : Ext Z.heap h0) (prem0 : bs.length = 0) (prem1 : ts.length = 2) (prem2 : Exa Z h0 so "java/lang/String") (prem3 : Fld Z h0 so "java/lang/String" "value" "[B" (.ref sv)) (prem4 : Fld Z h0 so "java/lang/String" "coder" "B" (.int (0 : Int32))) (prem5 : Arv Z h0 sv ks .byte (2 : Int32) (ts.map Value.int) (.int (0 : Int32))) (prem6 : Arv Z h0 va kv .byte (16 : Int32) (bs.map Value.int) (.int (0 : Int32))) (prem7 : Z.heap.size ≤ va) :
    Ok l Z own_m25 jdk_42_method_147_code 4 none ({ frames := 1, cells := 0, slots := 0, locals := 18 } : Room) #[(.ref so), (.ref va), (.int (0 : Int32)), (.int (0 : Int32))] h0
      (fun v h L => v = none ∧ (Fr Z.heap.size L) ∧ (Keep h0 h [va]) ∧ (Arv Z h va kv .byte (16 : Int32) ((bs ++ ts).map Value.int) (.int (0 : Int32)))) := by
  refine Ok.mk pn26 ?_
  intro p e s m below meth c T0 hx hby hml hown hnm hret hlk hZ e0 X0
  refine Go.cast (ef_rm_getb_0_2_16 m so va) ?_
  have D := @hb _ _ hby
  have N0 := Fr.nil Z.heap.size
  have K0 : Keep h0 h0 [va] := Keep.refl _ _
  obtain ⟨T77, v77, L77, X77, q77, st77⟩ := callVi X0 hx hZ (y := own_m5) (z := own_m5) hown (own_w hw (i := 53) rfl) (own_w hw (i := 54) rfl) (notFace_of_selects (args := #[]) (mvT hZ (own_w hw (i := 56) rfl))) (own_w hw (i := 56) rfl) (own_w hw (i := 55) rfl) (own_w hw (i := 57) rfl) (own_w hw (i := 4) rfl) (by decide) (rm_coder hw G so  h0 O0 prem4) e0 (W := 0) (by decide) (by decide) (by decide) (by decide) prem2 (g := (mkF m 1 #[rv so, rv va, iv 0, iv 0] [(.ref so)])) rfl (by rw [hml]; rfl) (argsL := []) (rest := []) (lenOf pd7 rfl) rfl rfl (Nat.le_of_eq rfl) (D d11_1)
  obtain ⟨rfl, e77, rfl⟩ := q77
  have N77 := Fr.app N0 (Fr.nil _)
  obtain ⟨T79, X79, e79, st79⟩ := getF X77 hx hZ hown (host := "") (Or.inl (own_w hw (i := 52) rfl)) Via.refl e77 prem3 (g := (mkF m 9 #[rv so, rv va, iv 0, iv 0] [(.ref so)])) rfl rfl (D d11_9)
  obtain ⟨T80, X80, e80, st80⟩ := getF X79 hx hZ hown (host := "") (Or.inl (own_w hw (i := 52) rfl)) Via.refl e79 prem3 (g := (mkF m 18 #[rv so, rv va, iv 0, iv 0] [(.ref so), (.int 0), (.ref va), (.int 0), (.ref sv)])) rfl rfl (D d11_18)
  obtain ⟨cl81, Ar81, qk81, S81, Ng81, H81, G81⟩ := id prem5
  obtain ⟨T82, h82, L82, X82, e82, N82, Kq82, V82, st82⟩ := own_cpG X80 hx hZ hown (own_w hw (i := 83) rfl) (own_w hw (i := 86) rfl) (own_w hw (i := 84) rfl) (own_w hw (i := 85) rfl) e80 prem5 prem6 (dp := (0 : Int32)) (nn := (2 : Int32)) (by rw [prem0]; decide) (by decide) (by decide) (by rw [prem1]; decide) (by decide) (by decide) N77 prem7 (g := (mkF m 22 #[rv so, rv va, iv 0, iv 0] [(.int 2), (.int 0), (.ref va), (.int 0), (.ref sv)])) rfl (by rw [hml]; rfl) rfl (D d11_22) (by decide) (W := 0) (Nat.le_of_eq rfl) (by decide)
  have O83 := Old0.keep O0 Kq82 (allS prem7 all0)
  have K83 := Keep.trans K0 Kq82 (allS (Or.inl (List.mem_of_getElem? (i := 0) rfl)) all0)
  refine Go.of (T' := T82) (f' := (mkF m 43 #[rv so, rv va, iv 0, iv 0] [])) (fun _ k => XS.aloadN X0.here hx rfl (D d11_0) rfl rfl (st77 _ (XS.iloadN X77.here hx rfl (D d11_4) rfl (XS.icmpNo X77.here hx rfl (D d11_5) rfl (teq (by decide : (0 : Int32) = (0 : Int32))).2 (XS.aloadN X77.here hx rfl (D d11_8) rfl rfl (st79 _ (XS.iconst X79.here hx rfl (D d11_12) (XS.aloadN X79.here hx rfl (D d11_13) rfl rfl (XS.iloadN X79.here hx rfl (D d11_14) rfl (XS.iloadN X79.here hx rfl (D d11_15) rfl (XS.ishl X79.here hx rfl (D d11_16) rfl (XS.aloadN X79.here hx rfl (D d11_17) rfl rfl (st80 _ (X80.arraylength hx (by rw [e80]; exact Ar81.1) (State.isArrayOf_alike hZ.alike Ar81.2.1) (g := (mkF m 21 #[rv so, rv va, iv 0, iv 0] [(.ref sv), (.int 0), (.ref va), (.int 0), (.ref sv)])) rfl rfl (D d11_21) _ (by rw [len_of S81 Ng81]; exact (st82 _ (XS.goto X82.here hx rfl (pc0 := 25) (pc' := 43) rfl (D d11_25) (by decide) (by decide) k))))))))))))))))) ?_
  exact Go.retV X82 hx hlk hret (D d11_43) (by decide) (by decide) (by rw [e82]; exact ⟨rfl, N82, K83, V82⟩)
theorem d9_0 : decode jdk_68_method_73_code 0 = .ok (.aload_n 0, 1) := by decide +kernel
theorem d9_1 : decode jdk_68_method_73_code 1 = .ok (.aload_n 2, 1) := by decide +kernel
theorem d9_2 : decode jdk_68_method_73_code 2 = .ok (.invokevirtual 397, 3) := by decide +kernel
theorem pd27 : parseMethodDescriptor "(Ljava/lang/String;)V" = some ⟨[(.object "java/lang/String")], none⟩ := by decide +kernel
theorem d9_5 : decode jdk_68_method_73_code 5 = .ok (.aload_n 2, 1) := by decide +kernel
theorem d9_6 : decode jdk_68_method_73_code 6 = .ok (.aload_n 0, 1) := by decide +kernel
theorem d9_7 : decode jdk_68_method_73_code 7 = .ok (.getfield 15, 3) := by decide +kernel
theorem d9_10 : decode jdk_68_method_73_code 10 = .ok (.iload_n 1, 1) := by decide +kernel
theorem d9_11 : decode jdk_68_method_73_code 11 = .ok (.aload_n 0, 1) := by decide +kernel
theorem d9_12 : decode jdk_68_method_73_code 12 = .ok (.getfield 22, 3) := by decide +kernel
theorem d9_15 : decode jdk_68_method_73_code 15 = .ok (.invokevirtual 399, 3) := by decide +kernel
theorem pd28 : parseMethodDescriptor "([BIB)V" = some ⟨[(.array .byte), .int, .byte], none⟩ := by decide +kernel
theorem d9_18 : decode jdk_68_method_73_code 18 = .ok (.return_, 1) := by decide +kernel
abbrev own_m29 : MethodName := (⟨"java/lang/AbstractStringBuilder", "putStringAt", "(ILjava/lang/String;)V"⟩ : MethodName)
theorem ef_rm_put_0_2_16 (m : MethodId) (ob : Addr) (so : Addr) : entryFrame m #[(.ref ob), (.int (0 : Int32)), (.ref so)] 3 = mkF m 0 #[rv ob, iv (0 : Int32), rv so] [] := by first | (simp [entryFrame, mkF, argsToLocals, Value.category]; done) | rfl
theorem pn30 : plainFor (⟨"java/lang/AbstractStringBuilder", "putStringAt", "(ILjava/lang/String;)V"⟩ : MethodName) = true := by first | exact plainFor_of_name (by first | (simp [plainName, overriddenIn]; done) | decide +kernel) | decide +kernel
set_option maxRecDepth 65536 in
set_option maxHeartbeats 40000000 in
theorem rm_put_0_2_16 {l : Launch} {Z : State} {a0 : Array Value} {A : Nat → Addr} {KC : Nat → Cell} {IC : Nat → Int32} {VC : Nat → Value} (hw : ∀ d ∈ tables_1, d.before a0 Z = true) (G : own_Ctx Z A KC IC VC) (ob : Addr) (so : Addr) (sv : Addr) (ks : ClassId) (ts : List Int32) (va : Addr) (kv : ClassId) (bs : List Int32) (h0 : Heap) (O0 : Ext Z.heap h0) (prem0 : bs.length = 0) (prem1 : ts.length = 2) (prem2 : Exa Z h0 ob "java/lang/StringBuilder") (prem3 : Fld Z h0 ob "java/lang/AbstractStringBuilder" "value" "[B" (.ref va)) (prem4 : Fld Z h0 ob "java/lang/AbstractStringBuilder" "coder" "B" (.int (0 : Int32))) (prem5 : Exa Z h0 so "java/lang/String") (prem6 : Fld Z h0 so "java/lang/String" "value" "[B" (.ref sv)) (prem7 : Fld Z h0 so "java/lang/String" "coder" "B" (.int (0 : Int32))) (prem8 : Arv Z h0 sv ks .byte (2 : Int32) (ts.map Value.int) (.int (0 : Int32))) (prem9 : Arv Z h0 va kv .byte (16 : Int32) (bs.map Value.int) (.int (0 : Int32))) (prem10 : Z.heap.size ≤ va) :
    Ok l Z own_m29 jdk_68_method_73_code 3 none ({ frames := 2, cells := 0, slots := 0, locals := 33 } : Room) #[(.ref ob), (.int (0 : Int32)), (.ref so)] h0
      (fun v h L => v = none ∧ (Fr Z.heap.size L) ∧ (Keep h0 h [va]) ∧ (Arv Z h va kv .byte (16 : Int32) ((bs ++ ts).map Value.int) (.int (0 : Int32)))) := by
  refine Ok.mk pn30 ?_
  intro p e s m below meth c T0 hx hby hml hown hnm hret hlk hZ e0 X0
  refine Go.cast (ef_rm_put_0_2_16 m ob so) ?_
  have D := @hb _ _ hby
  have N0 := Fr.nil Z.heap.size
  have K0 : Keep h0 h0 [va] := Keep.refl _ _
  obtain ⟨T84, v84, L84, X84, q84, st84⟩ := callPr X0 hx hZ (y := own_m10) hown (own_w hw (i := 72) rfl) (own_w hw (i := 73) rfl) (own_selfsel (own_w hw (i := 73) rfl) (own_w hw (i := 75) rfl) (own_w hw (i := 74) rfl) (by decide)) (own_w hw (i := 74) rfl) (own_w hw (i := 26) rfl) (own_w hw (i := 76) rfl) (by decide) (rm_infl hw G ob so  h0 O0 prem4 prem5 prem7) e0 (W := 0) (by decide) (by decide) (by decide) (by decide) prem2 (g := (mkF m 2 #[rv ob, iv 0, rv so] [(.ref so), (.ref ob)])) rfl (by rw [hml]; rfl) (a := ob) (argsL := [(.ref so)]) (rest := []) (lenOf pd27 rfl) rfl rfl (Nat.le_of_eq rfl) (D d9_2)
  obtain ⟨rfl, e84, rfl⟩ := q84
  have N84 := Fr.app N0 (Fr.nil _)
  obtain ⟨T85, X85, e85, st85⟩ := getF X84 hx hZ hown (host := "") (Or.inl (own_w hw (i := 32) rfl)) Via.refl e84 prem3 (g := (mkF m 7 #[rv ob, iv 0, rv so] [(.ref ob), (.ref so)])) rfl rfl (D d9_7)
  obtain ⟨T86, X86, e86, st86⟩ := getF X85 hx hZ hown (host := "") (Or.inl (own_w hw (i := 34) rfl)) Via.refl e85 prem4 (g := (mkF m 12 #[rv ob, iv 0, rv so] [(.ref ob), (.int 0), (.ref va), (.ref so)])) rfl rfl (D d9_12)
  obtain ⟨T87, v87, L87, X87, q87, st87⟩ := callVi X86 hx hZ (y := own_m25) (z := own_m25) hown (own_w hw (i := 78) rfl) (own_w hw (i := 79) rfl) (notFace_of_selects (args := #[]) (mvT hZ (own_w hw (i := 81) rfl))) (own_w hw (i := 81) rfl) (own_w hw (i := 80) rfl) (own_w hw (i := 82) rfl) (own_w hw (i := 4) rfl) (by decide) (rm_getb_0_2_16 hw G so va sv ks ts kv bs h0 O0 (prem0) (prem1) prem5 prem6 prem7 prem8 prem9 prem10) e86 (W := 0) (by decide) (by decide) (by decide) (by decide) prem5 (g := (mkF m 15 #[rv ob, iv 0, rv so] [(.int 0), (.int 0), (.ref va), (.ref so)])) rfl (by rw [hml]; rfl) (argsL := [(.ref va), (.int 0), (.int 0)]) (rest := []) (lenOf pd28 rfl) rfl rfl (Nat.le_of_eq rfl) (D d9_15)
  obtain ⟨rfl, N87q, K87q, p87_0⟩ := q87
  have N87 := Fr.app N84 N87q
  have O88 := Old0.keep O0 K87q (allS prem10 all0)
  have K88 := Keep.trans K0 K87q (allS (Or.inl (List.mem_of_getElem? (i := 0) rfl)) all0)
  refine Go.of (T' := T87) (f' := (mkF m 18 #[rv ob, iv 0, rv so] [])) (fun _ k => XS.aloadN X0.here hx rfl (D d9_0) rfl rfl (XS.aloadN X0.here hx rfl (D d9_1) rfl rfl (st84 _ (XS.aloadN X84.here hx rfl (D d9_5) rfl rfl (XS.aloadN X84.here hx rfl (D d9_6) rfl rfl (st85 _ (XS.iloadN X85.here hx rfl (D d9_10) rfl (XS.aloadN X85.here hx rfl (D d9_11) rfl rfl (st86 _ (st87 _ k)))))))))) ?_
  exact Go.retV X87 hx hlk hret (D d9_18) (by decide) (by decide) ⟨rfl, N87, K88, p87_0⟩
theorem d5_0 : decode jdk_68_method_22_code 0 = .ok (.aload_n 1, 1) := by decide +kernel
theorem d5_1 : decode jdk_68_method_22_code 1 = .ok (.ifnonnull 8, 3) := by decide +kernel
theorem d5_9 : decode jdk_68_method_22_code 9 = .ok (.aload_n 1, 1) := by decide +kernel
theorem d5_10 : decode jdk_68_method_22_code 10 = .ok (.invokevirtual 32, 3) := by decide +kernel
theorem pd31 : parseMethodDescriptor "()I" = some ⟨[], some .int⟩ := by decide +kernel
theorem d5_13 : decode jdk_68_method_22_code 13 = .ok (.istore_n 2, 1) := by decide +kernel
theorem d5_14 : decode jdk_68_method_22_code 14 = .ok (.aload_n 0, 1) := by decide +kernel
theorem d5_15 : decode jdk_68_method_22_code 15 = .ok (.aload_n 0, 1) := by decide +kernel
theorem d5_16 : decode jdk_68_method_22_code 16 = .ok (.getfield 79, 3) := by decide +kernel
theorem d5_19 : decode jdk_68_method_22_code 19 = .ok (.iload_n 2, 1) := by decide +kernel
theorem d5_20 : decode jdk_68_method_22_code 20 = .ok (.iadd, 1) := by decide +kernel
theorem d5_21 : decode jdk_68_method_22_code 21 = .ok (.invokevirtual 100, 3) := by decide +kernel
theorem d5_24 : decode jdk_68_method_22_code 24 = .ok (.aload_n 0, 1) := by decide +kernel
theorem d5_25 : decode jdk_68_method_22_code 25 = .ok (.aload_n 0, 1) := by decide +kernel
theorem d5_26 : decode jdk_68_method_22_code 26 = .ok (.getfield 79, 3) := by decide +kernel
theorem d5_29 : decode jdk_68_method_22_code 29 = .ok (.aload_n 1, 1) := by decide +kernel
theorem d5_30 : decode jdk_68_method_22_code 30 = .ok (.invokevirtual 208, 3) := by decide +kernel
theorem pd32 : parseMethodDescriptor "(ILjava/lang/String;)V" = some ⟨[.int, (.object "java/lang/String")], none⟩ := by decide +kernel
theorem d5_33 : decode jdk_68_method_22_code 33 = .ok (.aload_n 0, 1) := by decide +kernel
theorem d5_34 : decode jdk_68_method_22_code 34 = .ok (.dup, 1) := by decide +kernel
theorem d5_35 : decode jdk_68_method_22_code 35 = .ok (.getfield 79, 3) := by decide +kernel
theorem d5_38 : decode jdk_68_method_22_code 38 = .ok (.iload_n 2, 1) := by decide +kernel
theorem d5_39 : decode jdk_68_method_22_code 39 = .ok (.iadd, 1) := by decide +kernel
theorem d5_40 : decode jdk_68_method_22_code 40 = .ok (.putfield 79, 3) := by decide +kernel
theorem d5_43 : decode jdk_68_method_22_code 43 = .ok (.aload_n 0, 1) := by decide +kernel
theorem d5_44 : decode jdk_68_method_22_code 44 = .ok (.areturn, 1) := by decide +kernel
abbrev own_m33 : MethodName := (⟨"java/lang/AbstractStringBuilder", "append", "(Ljava/lang/String;)Ljava/lang/AbstractStringBuilder;"⟩ : MethodName)
theorem ef_rm_aba_0_2_16 (m : MethodId) (ob : Addr) (so : Addr) : entryFrame m #[(.ref ob), (.ref so)] 3 = mkF m 0 #[rv ob, rv so, .unset] [] := by first | (simp [entryFrame, mkF, argsToLocals, Value.category]; done) | rfl
theorem pn34 : plainFor (⟨"java/lang/AbstractStringBuilder", "append", "(Ljava/lang/String;)Ljava/lang/AbstractStringBuilder;"⟩ : MethodName) = true := by first | exact plainFor_of_name (by first | (simp [plainName, overriddenIn]; done) | decide +kernel) | decide +kernel
set_option maxRecDepth 65536 in
set_option maxHeartbeats 40000000 in
theorem rm_aba_0_2_16 {l : Launch} {Z : State} {a0 : Array Value} {A : Nat → Addr} {KC : Nat → Cell} {IC : Nat → Int32} {VC : Nat → Value} (hw : ∀ d ∈ tables_1, d.before a0 Z = true) (G : own_Ctx Z A KC IC VC) (ob : Addr) (so : Addr) (sv : Addr) (ks : ClassId) (ts : List Int32) (va : Addr) (kv : ClassId) (bs : List Int32) (h0 : Heap) (O0 : Ext Z.heap h0) (prem0 : bs.length = 0) (prem1 : ts.length = 2) (prem2 : Exa Z h0 ob "java/lang/StringBuilder") (prem3 : Fld Z h0 ob "java/lang/AbstractStringBuilder" "value" "[B" (.ref va)) (prem4 : Fld Z h0 ob "java/lang/AbstractStringBuilder" "coder" "B" (.int (0 : Int32))) (prem5 : Fld Z h0 ob "java/lang/AbstractStringBuilder" "count" "I" (.int (0 : Int32))) (prem6 : Exa Z h0 so "java/lang/String") (prem7 : Fld Z h0 so "java/lang/String" "value" "[B" (.ref sv)) (prem8 : Fld Z h0 so "java/lang/String" "coder" "B" (.int (0 : Int32))) (prem9 : Arv Z h0 sv ks .byte (2 : Int32) (ts.map Value.int) (.int (0 : Int32))) (prem10 : Arv Z h0 va kv .byte (16 : Int32) (bs.map Value.int) (.int (0 : Int32))) (prem11 : Z.heap.size ≤ ob) (prem12 : Z.heap.size ≤ va) (prem13 : ob ≠ va) (prem14 : so ≠ ob) (prem15 : sv ≠ ob) (prem16 : so ≠ va) (prem17 : sv ≠ va) :
    Ok l Z own_m33 jdk_68_method_22_code 3 (some (.object "java/lang/AbstractStringBuilder")) ({ frames := 3, cells := 0, slots := 0, locals := 47 } : Room) #[(.ref ob), (.ref so)] h0
      (fun v h L => v = some (.ref ob) ∧ (Fr Z.heap.size L) ∧ (Keep h0 h [ob, va]) ∧ (Fld Z h ob "java/lang/AbstractStringBuilder" "value" "[B" (.ref va)) ∧ (Fld Z h ob "java/lang/AbstractStringBuilder" "coder" "B" (.int (0 : Int32))) ∧ (Fld Z h ob "java/lang/AbstractStringBuilder" "count" "I" (.int (2 : Int32))) ∧ (Arv Z h va kv .byte (16 : Int32) ((bs ++ ts).map Value.int) (.int (0 : Int32)))) := by
  refine Ok.mk pn34 ?_
  intro p e s m below meth c T0 hx hby hml hown hnm hret hlk hZ e0 X0
  refine Go.cast (ef_rm_aba_0_2_16 m ob so) ?_
  have D := @hb _ _ hby
  have N0 := Fr.nil Z.heap.size
  have K0 : Keep h0 h0 [ob, va] := Keep.refl _ _
  obtain ⟨T89, v89, L89, X89, q89, st89⟩ := callVi X0 hx hZ (y := own_m8) (z := own_m8) hown (own_w hw (i := 47) rfl) (own_w hw (i := 48) rfl) (notFace_of_selects (args := #[]) (mvT hZ (own_w hw (i := 50) rfl))) (own_w hw (i := 50) rfl) (own_w hw (i := 49) rfl) (own_w hw (i := 51) rfl) (own_w hw (i := 4) rfl) (by decide) (rm_len hw G so sv ks ((2 : Int32)) ts h0 O0 prem6 prem7 prem8 prem9 (by decide)) e0 (W := 0) (by decide) (by decide) (by decide) (by decide) prem6 (g := (mkF m 10 #[rv ob, rv so, .unset] [(.ref so)])) rfl (by rw [hml]; rfl) (argsL := []) (rest := []) (lenOf pd31 rfl) rfl rfl (Nat.le_of_eq rfl) (D d5_10)
  obtain ⟨rfl, e89, rfl⟩ := q89
  have N89 := Fr.app N0 (Fr.nil _)
  obtain ⟨T90, X90, e90, st90⟩ := getF X89 hx hZ hown (host := "") (Or.inl (own_w hw (i := 60) rfl)) Via.refl e89 prem5 (g := (mkF m 16 #[rv ob, rv so, iv 2] [(.ref ob), (.ref ob)])) rfl rfl (D d5_16)
  obtain ⟨T91, v91, L91, X91, q91, st91⟩ := callPr X90 hx hZ (y := own_m23) hown (own_w hw (i := 62) rfl) (own_w hw (i := 63) rfl) (own_selfsel (own_w hw (i := 63) rfl) (own_w hw (i := 65) rfl) (own_w hw (i := 64) rfl) (by decide)) (own_w hw (i := 64) rfl) (own_w hw (i := 26) rfl) (own_w hw (i := 66) rfl) (by decide) (rm_ecf_2_16 hw G ob va kv bs h0 O0 prem2 prem3 prem4 prem10) e90 (W := 0) (by decide) (by decide) (by decide) (by decide) prem2 (g := (mkF m 21 #[rv ob, rv so, iv 2] [(.int 2), (.ref ob)])) rfl (by rw [hml]; rfl) (a := ob) (argsL := [(.int 2)]) (rest := []) (lenOf pd2 rfl) rfl rfl (Nat.le_of_eq rfl) (D d5_21)
  obtain ⟨rfl, e91, rfl⟩ := q91
  have N91 := Fr.app N89 (Fr.nil _)
  obtain ⟨T92, X92, e92, st92⟩ := getF X91 hx hZ hown (host := "") (Or.inl (own_w hw (i := 60) rfl)) Via.refl e91 prem5 (g := (mkF m 26 #[rv ob, rv so, iv 2] [(.ref ob), (.ref ob)])) rfl rfl (D d5_26)
  obtain ⟨T93, v93, L93, X93, q93, st93⟩ := callPr X92 hx hZ (y := own_m29) hown (own_w hw (i := 67) rfl) (own_w hw (i := 68) rfl) (own_selfsel (own_w hw (i := 68) rfl) (own_w hw (i := 70) rfl) (own_w hw (i := 69) rfl) (by decide)) (own_w hw (i := 69) rfl) (own_w hw (i := 26) rfl) (own_w hw (i := 71) rfl) (by decide) (rm_put_0_2_16 hw G ob so sv ks ts va kv bs h0 O0 (prem0) (prem1) prem2 prem3 prem4 prem6 prem7 prem8 prem9 prem10 prem12) e92 (W := 0) (by decide) (by decide) (by decide) (by decide) prem2 (g := (mkF m 30 #[rv ob, rv so, iv 2] [(.ref so), (.int 0), (.ref ob)])) rfl (by rw [hml]; rfl) (a := ob) (argsL := [(.int 0), (.ref so)]) (rest := []) (lenOf pd32 rfl) rfl rfl (Nat.le_of_eq rfl) (D d5_30)
  obtain ⟨rfl, N93q, K93q, p93_0⟩ := q93
  have N93 := Fr.app N91 N93q
  have O94 := Old0.keep O0 K93q (allS prem12 all0)
  have K94 := Keep.trans K0 K93q (allS (Or.inl (List.mem_of_getElem? (i := 1) rfl)) all0)
  have f96 : Fld Z T93.heap ob "java/lang/AbstractStringBuilder" "count" "I" (.int 0) := (Fld.keep prem5 K93q (ninS prem13 nin0))
  obtain ⟨T95, X95, e95, st95⟩ := getF X93 hx hZ hown (host := "") (Or.inl (own_w hw (i := 60) rfl)) Via.refl rfl f96 (g := (mkF m 35 #[rv ob, rv so, iv 2] [(.ref ob), (.ref ob)])) rfl rfl (D d5_35)
  have f98 : Exa Z T93.heap ob "java/lang/StringBuilder" := (Exa.keep prem2 K93q)
  obtain ⟨T97, h97, X97, e97, W97, st97⟩ := putF X95 hx hZ hown (host := "") (Or.inl (own_w hw (i := 60) rfl)) Via.refl e95 f96 f98 (Or.inl (own_w hw (i := 61) rfl)) (own_w hw (i := 17) rfl) (ty := .int) (by decide) rfl rfl (g := (mkF m 40 #[rv ob, rv so, iv 2] [(.int 2), (.ref ob)])) rfl rfl (D d5_40)
  have O99 := Old0.wr O94 W97 prem11
  have K99 := Keep.wr K94 W97 (Or.inl (List.mem_of_getElem? (i := 0) rfl))
  have N97 := Fr.snoc X97 N93 prem11
  have f97 : Fld Z h97 ob "java/lang/AbstractStringBuilder" "count" "I" (.int 2) := Fld.same W97 f96
  have f100 : Fld Z h97 ob "java/lang/AbstractStringBuilder" "value" "[B" (.ref va) := (Fld.other W97 (Fld.keep prem3 K93q (ninS prem13 nin0)) (Or.inr (slot_ne (Or.inl (own_w hw (i := 33) rfl)) (Or.inl (own_w hw (i := 61) rfl)) (by decide) (t := (.array .byte)) (t' := .int) (by decide) (by decide))))
  have f101 : Fld Z h97 ob "java/lang/AbstractStringBuilder" "coder" "B" (.int 0) := (Fld.other W97 (Fld.keep prem4 K93q (ninS prem13 nin0)) (Or.inr (slot_ne (Or.inl (own_w hw (i := 35) rfl)) (Or.inl (own_w hw (i := 61) rfl)) (by decide) (t := .byte) (t' := .int) (by decide) (by decide))))
  have f102 : Arv Z h97 va kv .byte (16 : Int32) ((bs ++ ts).map Value.int) (.int 0) := (Arv.other p93_0 W97 (Ne.symm prem13))
  refine Go.of (T' := T97) (f' := (mkF m 44 #[rv ob, rv so, iv 2] [(.ref ob)])) (fun _ k => XS.aloadN X0.here hx rfl (D d5_0) rfl rfl (XS.ifnonnullYes X0.here hx rfl (pc0 := 1) (pc' := 9) rfl (D d5_1) rfl (by decide) (by decide) (XS.aloadN X0.here hx rfl (D d5_9) rfl rfl (st89 _ (XS.istoreN X89.here hx rfl (D d5_13) rfl (l' := #[rv ob, rv so, iv 2]) rfl (XS.aloadN X89.here hx rfl (D d5_14) rfl rfl (XS.aloadN X89.here hx rfl (D d5_15) rfl rfl (st90 _ (XS.iloadN X90.here hx rfl (D d5_19) rfl (XS.iadd X90.here hx rfl (D d5_20) rfl (st91 _ (XS.aloadN X91.here hx rfl (D d5_24) rfl rfl (XS.aloadN X91.here hx rfl (D d5_25) rfl rfl (st92 _ (XS.aloadN X92.here hx rfl (D d5_29) rfl rfl (st93 _ (XS.aloadN X93.here hx rfl (D d5_33) rfl rfl (XS.dup X93.here hx rfl (D d5_34) rfl rfl (st95 _ (XS.iloadN X95.here hx rfl (D d5_38) rfl (XS.iadd X95.here hx rfl (D d5_39) rfl (st97 _ (XS.aloadN X97.here hx rfl (D d5_43) rfl rfl k))))))))))))))))))))))) ?_
  exact Go.retA X97 hx hlk hret rfl rfl (D d5_44) (by decide) (by decide) (by rw [e97]; exact ⟨rfl, N97, K99, f100, f101, f97, f102⟩)
theorem d4_0 : decode jdk_67_method_7_code 0 = .ok (.aload_n 0, 1) := by decide +kernel
theorem d4_1 : decode jdk_67_method_7_code 1 = .ok (.aload_n 1, 1) := by decide +kernel
theorem d4_2 : decode jdk_67_method_7_code 2 = .ok (.invokespecial 29, 3) := by decide +kernel
theorem pd35 : parseMethodDescriptor "(Ljava/lang/String;)Ljava/lang/AbstractStringBuilder;" = some ⟨[(.object "java/lang/String")], some (.object "java/lang/AbstractStringBuilder")⟩ := by decide +kernel
theorem d4_5 : decode jdk_67_method_7_code 5 = .ok (.pop, 1) := by decide +kernel
theorem d4_6 : decode jdk_67_method_7_code 6 = .ok (.aload_n 0, 1) := by decide +kernel
theorem d4_7 : decode jdk_67_method_7_code 7 = .ok (.areturn, 1) := by decide +kernel
abbrev own_m36 : MethodName := (⟨"java/lang/StringBuilder", "append", "(Ljava/lang/String;)Ljava/lang/StringBuilder;"⟩ : MethodName)
theorem ef_rm_sba_0_2_16 (m : MethodId) (ob : Addr) (so : Addr) : entryFrame m #[(.ref ob), (.ref so)] 2 = mkF m 0 #[rv ob, rv so] [] := by first | (simp [entryFrame, mkF, argsToLocals, Value.category]; done) | rfl
theorem pn37 : plainFor (⟨"java/lang/StringBuilder", "append", "(Ljava/lang/String;)Ljava/lang/StringBuilder;"⟩ : MethodName) = true := by first | exact plainFor_of_name (by first | (simp [plainName, overriddenIn]; done) | decide +kernel) | decide +kernel
set_option maxRecDepth 65536 in
set_option maxHeartbeats 40000000 in
theorem rm_sba_0_2_16 {l : Launch} {Z : State} {a0 : Array Value} {A : Nat → Addr} {KC : Nat → Cell} {IC : Nat → Int32} {VC : Nat → Value} (hw : ∀ d ∈ tables_1, d.before a0 Z = true) (G : own_Ctx Z A KC IC VC) (ob : Addr) (so : Addr) (sv : Addr) (ks : ClassId) (ts : List Int32) (va : Addr) (kv : ClassId) (bs : List Int32) (h0 : Heap) (O0 : Ext Z.heap h0) (prem0 : bs.length = 0) (prem1 : ts.length = 2) (prem2 : Exa Z h0 ob "java/lang/StringBuilder") (prem3 : Fld Z h0 ob "java/lang/AbstractStringBuilder" "value" "[B" (.ref va)) (prem4 : Fld Z h0 ob "java/lang/AbstractStringBuilder" "coder" "B" (.int (0 : Int32))) (prem5 : Fld Z h0 ob "java/lang/AbstractStringBuilder" "count" "I" (.int (0 : Int32))) (prem6 : Exa Z h0 so "java/lang/String") (prem7 : Fld Z h0 so "java/lang/String" "value" "[B" (.ref sv)) (prem8 : Fld Z h0 so "java/lang/String" "coder" "B" (.int (0 : Int32))) (prem9 : Arv Z h0 sv ks .byte (2 : Int32) (ts.map Value.int) (.int (0 : Int32))) (prem10 : Arv Z h0 va kv .byte (16 : Int32) (bs.map Value.int) (.int (0 : Int32))) (prem11 : Z.heap.size ≤ ob) (prem12 : Z.heap.size ≤ va) (prem13 : ob ≠ va) (prem14 : so ≠ ob) (prem15 : sv ≠ ob) (prem16 : so ≠ va) (prem17 : sv ≠ va) :
    Ok l Z own_m36 jdk_67_method_7_code 2 (some (.object "java/lang/StringBuilder")) ({ frames := 4, cells := 0, slots := 0, locals := 61 } : Room) #[(.ref ob), (.ref so)] h0
      (fun v h L => v = some (.ref ob) ∧ (Fr Z.heap.size L) ∧ (Keep h0 h [ob, va]) ∧ (Fld Z h ob "java/lang/AbstractStringBuilder" "value" "[B" (.ref va)) ∧ (Fld Z h ob "java/lang/AbstractStringBuilder" "coder" "B" (.int (0 : Int32))) ∧ (Fld Z h ob "java/lang/AbstractStringBuilder" "count" "I" (.int (2 : Int32))) ∧ (Arv Z h va kv .byte (16 : Int32) ((bs ++ ts).map Value.int) (.int (0 : Int32)))) := by
  refine Ok.mk pn37 ?_
  intro p e s m below meth c T0 hx hby hml hown hnm hret hlk hZ e0 X0
  refine Go.cast (ef_rm_sba_0_2_16 m ob so) ?_
  have D := @hb _ _ hby
  have N0 := Fr.nil Z.heap.size
  have K0 : Keep h0 h0 [ob, va] := Keep.refl _ _
  obtain ⟨T103, v103, L103, X103, q103, st103⟩ := callSu X0 hx hZ (y := own_m33) hown (own_w hw (i := 42) rfl) (nf_mate (own_w hw (i := 65) rfl) rfl) (own_w hw (i := 43) rfl) (own_w hw (i := 44) rfl) (by decide) (own_w hw (i := 46) rfl) (own_w hw (i := 26) rfl) (by decide) (rm_aba_0_2_16 hw G ob so sv ks ts va kv bs h0 O0 (prem0) (prem1) prem2 prem3 prem4 prem5 prem6 prem7 prem8 prem9 prem10 prem11 prem12 prem13 prem14 prem15 prem16 prem17) e0 (W := 0) (by decide) (by decide) (by decide) (by decide) (Ins.self prem2) (g := (mkF m 2 #[rv ob, rv so] [(.ref so), (.ref ob)])) rfl (by rw [hml]; rfl) (argsL := [(.ref so)]) (rest := []) (lenOf pd35 rfl) rfl rfl (Nat.le_of_eq rfl) (D d4_2)
  obtain ⟨rfl, N103q, K103q, p103_0, p103_1, p103_2, p103_3⟩ := q103
  have N103 := Fr.app N0 N103q
  have O104 := Old0.keep O0 K103q (allS prem11 (allS prem12 all0))
  have K104 := Keep.trans K0 K103q (allS (Or.inl (List.mem_of_getElem? (i := 0) rfl)) (allS (Or.inl (List.mem_of_getElem? (i := 1) rfl)) all0))
  refine Go.of (T' := T103) (f' := (mkF m 7 #[rv ob, rv so] [(.ref ob)])) (fun _ k => XS.aloadN X0.here hx rfl (D d4_0) rfl rfl (XS.aloadN X0.here hx rfl (D d4_1) rfl rfl (st103 _ (XT.pop X103.here hx rfl (D d4_5) rfl rfl (XS.aloadN X103.here hx rfl (D d4_6) rfl rfl k))))) ?_
  exact Go.retA X103 hx hlk hret rfl rfl (D d4_7) (by decide) (by decide) ⟨rfl, N103, K104, p103_0, p103_1, p103_2, p103_3⟩
theorem ef_rm_ecf_7_16 (m : MethodId) (ob : Addr) : entryFrame m #[(.ref ob), (.int (7 : Int32))] 3 = mkF m 0 #[rv ob, iv (7 : Int32), .unset] [] := by first | (simp [entryFrame, mkF, argsToLocals, Value.category]; done) | rfl
set_option maxRecDepth 65536 in
set_option maxHeartbeats 40000000 in
theorem rm_ecf_7_16 {l : Launch} {Z : State} {a0 : Array Value} {A : Nat → Addr} {KC : Nat → Cell} {IC : Nat → Int32} {VC : Nat → Value} (hw : ∀ d ∈ tables_1, d.before a0 Z = true) (G : own_Ctx Z A KC IC VC) (ob : Addr) (va : Addr) (kv : ClassId) (bs : List Int32) (h0 : Heap) (O0 : Ext Z.heap h0) (prem0 : Exa Z h0 ob "java/lang/StringBuilder") (prem1 : Fld Z h0 ob "java/lang/AbstractStringBuilder" "value" "[B" (.ref va)) (prem2 : Fld Z h0 ob "java/lang/AbstractStringBuilder" "coder" "B" (.int (0 : Int32))) (prem3 : Arv Z h0 va kv .byte (16 : Int32) (bs.map Value.int) (.int (0 : Int32))) :
    Ok l Z own_m23 jdk_68_method_9_code 3 none ({ frames := 0, cells := 0, slots := 0, locals := 0 } : Room) #[(.ref ob), (.int (7 : Int32))] h0
      (fun v h L => v = none ∧ (h = h0) ∧ (L = [])) := by
  refine Ok.mk pn24 ?_
  intro p e s m below meth c T0 hx hby hml hown hnm hret hlk hZ e0 X0
  refine Go.cast (ef_rm_ecf_7_16 m ob) ?_
  have D := @hb _ _ hby
  have N0 := Fr.nil Z.heap.size
  have K0 : Keep h0 h0 [] := Keep.refl _ _
  obtain ⟨T105, X105, e105, st105⟩ := getF X0 hx hZ hown (host := "") (Or.inl (own_w hw (i := 32) rfl)) Via.refl e0 prem1 (g := (mkF m 1 #[rv ob, iv 7, .unset] [(.ref ob)])) rfl rfl (D d8_1)
  obtain ⟨cl106, Ar106, qk106, S106, Ng106, H106, G106⟩ := id prem3
  obtain ⟨T107, X107, e107, st107⟩ := getF X105 hx hZ hown (host := "") (Or.inl (own_w hw (i := 34) rfl)) Via.refl e105 prem2 (g := (mkF m 6 #[rv ob, iv 7, .unset] [(.ref ob), (.int 16)])) rfl rfl (D d8_6)
  refine Go.of (T' := T107) (f' := (mkF m 38 #[rv ob, iv 7, iv 16] [])) (fun _ k => XS.aloadN X0.here hx rfl (D d8_0) rfl rfl (st105 _ (X105.arraylength hx (by rw [e105]; exact Ar106.1) (State.isArrayOf_alike hZ.alike Ar106.2.1) (g := (mkF m 4 #[rv ob, iv 7, .unset] [(.ref va)])) rfl rfl (D d8_4) _ (by rw [len_of S106 Ng106]; exact (XS.aloadN X105.here hx rfl (D d8_5) rfl rfl (st107 _ (XS.ishr X107.here hx rfl (D d8_9) rfl (XS.istoreN X107.here hx rfl (D d8_10) rfl (l' := #[rv ob, iv 7, iv 16]) rfl (XS.iloadN X107.here hx rfl (D d8_11) rfl (XS.iloadN X107.here hx rfl (D d8_12) rfl (XS.isub X107.here hx rfl (D d8_13) rfl (XS.ifYes X107.here hx rfl (pc0 := 14) (pc' := 38) rfl (D d8_14) rfl ((if0 _ _).trans (flt (by decide : ¬ ((0 : Int32) < (-9 : Int32)))).2.2.2) (by decide) (by decide) k)))))))))))) ?_
  exact Go.retV X107 hx hlk hret (D d8_38) (by decide) (by decide) (by rw [e107]; exact ⟨rfl, rfl, by simp⟩)
theorem ef_rm_getb_2_5_16 (m : MethodId) (so : Addr) (va : Addr) : entryFrame m #[(.ref so), (.ref va), (.int (2 : Int32)), (.int (0 : Int32))] 4 = mkF m 0 #[rv so, rv va, iv (2 : Int32), iv (0 : Int32)] [] := by first | (simp [entryFrame, mkF, argsToLocals, Value.category]; done) | rfl
set_option maxRecDepth 65536 in
set_option maxHeartbeats 40000000 in
theorem rm_getb_2_5_16 {l : Launch} {Z : State} {a0 : Array Value} {A : Nat → Addr} {KC : Nat → Cell} {IC : Nat → Int32} {VC : Nat → Value} (hw : ∀ d ∈ tables_1, d.before a0 Z = true) (G : own_Ctx Z A KC IC VC) (so : Addr) (va : Addr) (sv : Addr) (ks : ClassId) (ts : List Int32) (kv : ClassId) (bs : List Int32) (h0 : Heap) (O0 : Ext Z.heap h0) (prem0 : bs.length = 2) (prem1 : ts.length = 5) (prem2 : Exa Z h0 so "java/lang/String") (prem3 : Fld Z h0 so "java/lang/String" "value" "[B" (.ref sv)) (prem4 : Fld Z h0 so "java/lang/String" "coder" "B" (.int (0 : Int32))) (prem5 : Arv Z h0 sv ks .byte (5 : Int32) (ts.map Value.int) (.int (0 : Int32))) (prem6 : Arv Z h0 va kv .byte (16 : Int32) (bs.map Value.int) (.int (0 : Int32))) (prem7 : Z.heap.size ≤ va) :
    Ok l Z own_m25 jdk_42_method_147_code 4 none ({ frames := 1, cells := 0, slots := 0, locals := 18 } : Room) #[(.ref so), (.ref va), (.int (2 : Int32)), (.int (0 : Int32))] h0
      (fun v h L => v = none ∧ (Fr Z.heap.size L) ∧ (Keep h0 h [va]) ∧ (Arv Z h va kv .byte (16 : Int32) ((bs ++ ts).map Value.int) (.int (0 : Int32)))) := by
  refine Ok.mk pn26 ?_
  intro p e s m below meth c T0 hx hby hml hown hnm hret hlk hZ e0 X0
  refine Go.cast (ef_rm_getb_2_5_16 m so va) ?_
  have D := @hb _ _ hby
  have N0 := Fr.nil Z.heap.size
  have K0 : Keep h0 h0 [va] := Keep.refl _ _
  obtain ⟨T109, v109, L109, X109, q109, st109⟩ := callVi X0 hx hZ (y := own_m5) (z := own_m5) hown (own_w hw (i := 53) rfl) (own_w hw (i := 54) rfl) (notFace_of_selects (args := #[]) (mvT hZ (own_w hw (i := 56) rfl))) (own_w hw (i := 56) rfl) (own_w hw (i := 55) rfl) (own_w hw (i := 57) rfl) (own_w hw (i := 4) rfl) (by decide) (rm_coder hw G so  h0 O0 prem4) e0 (W := 0) (by decide) (by decide) (by decide) (by decide) prem2 (g := (mkF m 1 #[rv so, rv va, iv 2, iv 0] [(.ref so)])) rfl (by rw [hml]; rfl) (argsL := []) (rest := []) (lenOf pd7 rfl) rfl rfl (Nat.le_of_eq rfl) (D d11_1)
  obtain ⟨rfl, e109, rfl⟩ := q109
  have N109 := Fr.app N0 (Fr.nil _)
  obtain ⟨T111, X111, e111, st111⟩ := getF X109 hx hZ hown (host := "") (Or.inl (own_w hw (i := 52) rfl)) Via.refl e109 prem3 (g := (mkF m 9 #[rv so, rv va, iv 2, iv 0] [(.ref so)])) rfl rfl (D d11_9)
  obtain ⟨T112, X112, e112, st112⟩ := getF X111 hx hZ hown (host := "") (Or.inl (own_w hw (i := 52) rfl)) Via.refl e111 prem3 (g := (mkF m 18 #[rv so, rv va, iv 2, iv 0] [(.ref so), (.int 2), (.ref va), (.int 0), (.ref sv)])) rfl rfl (D d11_18)
  obtain ⟨cl113, Ar113, qk113, S113, Ng113, H113, G113⟩ := id prem5
  obtain ⟨T114, h114, L114, X114, e114, N114, Kq114, V114, st114⟩ := own_cpG X112 hx hZ hown (own_w hw (i := 83) rfl) (own_w hw (i := 86) rfl) (own_w hw (i := 84) rfl) (own_w hw (i := 85) rfl) e112 prem5 prem6 (dp := (2 : Int32)) (nn := (5 : Int32)) (by rw [prem0]; decide) (by decide) (by decide) (by rw [prem1]; decide) (by decide) (by decide) N109 prem7 (g := (mkF m 22 #[rv so, rv va, iv 2, iv 0] [(.int 5), (.int 2), (.ref va), (.int 0), (.ref sv)])) rfl (by rw [hml]; rfl) rfl (D d11_22) (by decide) (W := 0) (Nat.le_of_eq rfl) (by decide)
  have O115 := Old0.keep O0 Kq114 (allS prem7 all0)
  have K115 := Keep.trans K0 Kq114 (allS (Or.inl (List.mem_of_getElem? (i := 0) rfl)) all0)
  refine Go.of (T' := T114) (f' := (mkF m 43 #[rv so, rv va, iv 2, iv 0] [])) (fun _ k => XS.aloadN X0.here hx rfl (D d11_0) rfl rfl (st109 _ (XS.iloadN X109.here hx rfl (D d11_4) rfl (XS.icmpNo X109.here hx rfl (D d11_5) rfl (teq (by decide : (0 : Int32) = (0 : Int32))).2 (XS.aloadN X109.here hx rfl (D d11_8) rfl rfl (st111 _ (XS.iconst X111.here hx rfl (D d11_12) (XS.aloadN X111.here hx rfl (D d11_13) rfl rfl (XS.iloadN X111.here hx rfl (D d11_14) rfl (XS.iloadN X111.here hx rfl (D d11_15) rfl (XS.ishl X111.here hx rfl (D d11_16) rfl (XS.aloadN X111.here hx rfl (D d11_17) rfl rfl (st112 _ (X112.arraylength hx (by rw [e112]; exact Ar113.1) (State.isArrayOf_alike hZ.alike Ar113.2.1) (g := (mkF m 21 #[rv so, rv va, iv 2, iv 0] [(.ref sv), (.int 2), (.ref va), (.int 0), (.ref sv)])) rfl rfl (D d11_21) _ (by rw [len_of S113 Ng113]; exact (st114 _ (XS.goto X114.here hx rfl (pc0 := 25) (pc' := 43) rfl (D d11_25) (by decide) (by decide) k))))))))))))))))) ?_
  exact Go.retV X114 hx hlk hret (D d11_43) (by decide) (by decide) (by rw [e114]; exact ⟨rfl, N114, K115, V114⟩)
theorem ef_rm_put_2_5_16 (m : MethodId) (ob : Addr) (so : Addr) : entryFrame m #[(.ref ob), (.int (2 : Int32)), (.ref so)] 3 = mkF m 0 #[rv ob, iv (2 : Int32), rv so] [] := by first | (simp [entryFrame, mkF, argsToLocals, Value.category]; done) | rfl
set_option maxRecDepth 65536 in
set_option maxHeartbeats 40000000 in
theorem rm_put_2_5_16 {l : Launch} {Z : State} {a0 : Array Value} {A : Nat → Addr} {KC : Nat → Cell} {IC : Nat → Int32} {VC : Nat → Value} (hw : ∀ d ∈ tables_1, d.before a0 Z = true) (G : own_Ctx Z A KC IC VC) (ob : Addr) (so : Addr) (sv : Addr) (ks : ClassId) (ts : List Int32) (va : Addr) (kv : ClassId) (bs : List Int32) (h0 : Heap) (O0 : Ext Z.heap h0) (prem0 : bs.length = 2) (prem1 : ts.length = 5) (prem2 : Exa Z h0 ob "java/lang/StringBuilder") (prem3 : Fld Z h0 ob "java/lang/AbstractStringBuilder" "value" "[B" (.ref va)) (prem4 : Fld Z h0 ob "java/lang/AbstractStringBuilder" "coder" "B" (.int (0 : Int32))) (prem5 : Exa Z h0 so "java/lang/String") (prem6 : Fld Z h0 so "java/lang/String" "value" "[B" (.ref sv)) (prem7 : Fld Z h0 so "java/lang/String" "coder" "B" (.int (0 : Int32))) (prem8 : Arv Z h0 sv ks .byte (5 : Int32) (ts.map Value.int) (.int (0 : Int32))) (prem9 : Arv Z h0 va kv .byte (16 : Int32) (bs.map Value.int) (.int (0 : Int32))) (prem10 : Z.heap.size ≤ va) :
    Ok l Z own_m29 jdk_68_method_73_code 3 none ({ frames := 2, cells := 0, slots := 0, locals := 33 } : Room) #[(.ref ob), (.int (2 : Int32)), (.ref so)] h0
      (fun v h L => v = none ∧ (Fr Z.heap.size L) ∧ (Keep h0 h [va]) ∧ (Arv Z h va kv .byte (16 : Int32) ((bs ++ ts).map Value.int) (.int (0 : Int32)))) := by
  refine Ok.mk pn30 ?_
  intro p e s m below meth c T0 hx hby hml hown hnm hret hlk hZ e0 X0
  refine Go.cast (ef_rm_put_2_5_16 m ob so) ?_
  have D := @hb _ _ hby
  have N0 := Fr.nil Z.heap.size
  have K0 : Keep h0 h0 [va] := Keep.refl _ _
  obtain ⟨T116, v116, L116, X116, q116, st116⟩ := callPr X0 hx hZ (y := own_m10) hown (own_w hw (i := 72) rfl) (own_w hw (i := 73) rfl) (own_selfsel (own_w hw (i := 73) rfl) (own_w hw (i := 75) rfl) (own_w hw (i := 74) rfl) (by decide)) (own_w hw (i := 74) rfl) (own_w hw (i := 26) rfl) (own_w hw (i := 76) rfl) (by decide) (rm_infl hw G ob so  h0 O0 prem4 prem5 prem7) e0 (W := 0) (by decide) (by decide) (by decide) (by decide) prem2 (g := (mkF m 2 #[rv ob, iv 2, rv so] [(.ref so), (.ref ob)])) rfl (by rw [hml]; rfl) (a := ob) (argsL := [(.ref so)]) (rest := []) (lenOf pd27 rfl) rfl rfl (Nat.le_of_eq rfl) (D d9_2)
  obtain ⟨rfl, e116, rfl⟩ := q116
  have N116 := Fr.app N0 (Fr.nil _)
  obtain ⟨T117, X117, e117, st117⟩ := getF X116 hx hZ hown (host := "") (Or.inl (own_w hw (i := 32) rfl)) Via.refl e116 prem3 (g := (mkF m 7 #[rv ob, iv 2, rv so] [(.ref ob), (.ref so)])) rfl rfl (D d9_7)
  obtain ⟨T118, X118, e118, st118⟩ := getF X117 hx hZ hown (host := "") (Or.inl (own_w hw (i := 34) rfl)) Via.refl e117 prem4 (g := (mkF m 12 #[rv ob, iv 2, rv so] [(.ref ob), (.int 2), (.ref va), (.ref so)])) rfl rfl (D d9_12)
  obtain ⟨T119, v119, L119, X119, q119, st119⟩ := callVi X118 hx hZ (y := own_m25) (z := own_m25) hown (own_w hw (i := 78) rfl) (own_w hw (i := 79) rfl) (notFace_of_selects (args := #[]) (mvT hZ (own_w hw (i := 81) rfl))) (own_w hw (i := 81) rfl) (own_w hw (i := 80) rfl) (own_w hw (i := 82) rfl) (own_w hw (i := 4) rfl) (by decide) (rm_getb_2_5_16 hw G so va sv ks ts kv bs h0 O0 (prem0) (prem1) prem5 prem6 prem7 prem8 prem9 prem10) e118 (W := 0) (by decide) (by decide) (by decide) (by decide) prem5 (g := (mkF m 15 #[rv ob, iv 2, rv so] [(.int 0), (.int 2), (.ref va), (.ref so)])) rfl (by rw [hml]; rfl) (argsL := [(.ref va), (.int 2), (.int 0)]) (rest := []) (lenOf pd28 rfl) rfl rfl (Nat.le_of_eq rfl) (D d9_15)
  obtain ⟨rfl, N119q, K119q, p119_0⟩ := q119
  have N119 := Fr.app N116 N119q
  have O120 := Old0.keep O0 K119q (allS prem10 all0)
  have K120 := Keep.trans K0 K119q (allS (Or.inl (List.mem_of_getElem? (i := 0) rfl)) all0)
  refine Go.of (T' := T119) (f' := (mkF m 18 #[rv ob, iv 2, rv so] [])) (fun _ k => XS.aloadN X0.here hx rfl (D d9_0) rfl rfl (XS.aloadN X0.here hx rfl (D d9_1) rfl rfl (st116 _ (XS.aloadN X116.here hx rfl (D d9_5) rfl rfl (XS.aloadN X116.here hx rfl (D d9_6) rfl rfl (st117 _ (XS.iloadN X117.here hx rfl (D d9_10) rfl (XS.aloadN X117.here hx rfl (D d9_11) rfl rfl (st118 _ (st119 _ k)))))))))) ?_
  exact Go.retV X119 hx hlk hret (D d9_18) (by decide) (by decide) ⟨rfl, N119, K120, p119_0⟩
theorem ef_rm_aba_2_5_16 (m : MethodId) (ob : Addr) (so : Addr) : entryFrame m #[(.ref ob), (.ref so)] 3 = mkF m 0 #[rv ob, rv so, .unset] [] := by first | (simp [entryFrame, mkF, argsToLocals, Value.category]; done) | rfl
set_option maxRecDepth 65536 in
set_option maxHeartbeats 40000000 in
theorem rm_aba_2_5_16 {l : Launch} {Z : State} {a0 : Array Value} {A : Nat → Addr} {KC : Nat → Cell} {IC : Nat → Int32} {VC : Nat → Value} (hw : ∀ d ∈ tables_1, d.before a0 Z = true) (G : own_Ctx Z A KC IC VC) (ob : Addr) (so : Addr) (sv : Addr) (ks : ClassId) (ts : List Int32) (va : Addr) (kv : ClassId) (bs : List Int32) (h0 : Heap) (O0 : Ext Z.heap h0) (prem0 : bs.length = 2) (prem1 : ts.length = 5) (prem2 : Exa Z h0 ob "java/lang/StringBuilder") (prem3 : Fld Z h0 ob "java/lang/AbstractStringBuilder" "value" "[B" (.ref va)) (prem4 : Fld Z h0 ob "java/lang/AbstractStringBuilder" "coder" "B" (.int (0 : Int32))) (prem5 : Fld Z h0 ob "java/lang/AbstractStringBuilder" "count" "I" (.int (2 : Int32))) (prem6 : Exa Z h0 so "java/lang/String") (prem7 : Fld Z h0 so "java/lang/String" "value" "[B" (.ref sv)) (prem8 : Fld Z h0 so "java/lang/String" "coder" "B" (.int (0 : Int32))) (prem9 : Arv Z h0 sv ks .byte (5 : Int32) (ts.map Value.int) (.int (0 : Int32))) (prem10 : Arv Z h0 va kv .byte (16 : Int32) (bs.map Value.int) (.int (0 : Int32))) (prem11 : Z.heap.size ≤ ob) (prem12 : Z.heap.size ≤ va) (prem13 : ob ≠ va) (prem14 : so ≠ ob) (prem15 : sv ≠ ob) (prem16 : so ≠ va) (prem17 : sv ≠ va) :
    Ok l Z own_m33 jdk_68_method_22_code 3 (some (.object "java/lang/AbstractStringBuilder")) ({ frames := 3, cells := 0, slots := 0, locals := 47 } : Room) #[(.ref ob), (.ref so)] h0
      (fun v h L => v = some (.ref ob) ∧ (Fr Z.heap.size L) ∧ (Keep h0 h [ob, va]) ∧ (Fld Z h ob "java/lang/AbstractStringBuilder" "value" "[B" (.ref va)) ∧ (Fld Z h ob "java/lang/AbstractStringBuilder" "coder" "B" (.int (0 : Int32))) ∧ (Fld Z h ob "java/lang/AbstractStringBuilder" "count" "I" (.int (7 : Int32))) ∧ (Arv Z h va kv .byte (16 : Int32) ((bs ++ ts).map Value.int) (.int (0 : Int32)))) := by
  refine Ok.mk pn34 ?_
  intro p e s m below meth c T0 hx hby hml hown hnm hret hlk hZ e0 X0
  refine Go.cast (ef_rm_aba_2_5_16 m ob so) ?_
  have D := @hb _ _ hby
  have N0 := Fr.nil Z.heap.size
  have K0 : Keep h0 h0 [ob, va] := Keep.refl _ _
  obtain ⟨T121, v121, L121, X121, q121, st121⟩ := callVi X0 hx hZ (y := own_m8) (z := own_m8) hown (own_w hw (i := 47) rfl) (own_w hw (i := 48) rfl) (notFace_of_selects (args := #[]) (mvT hZ (own_w hw (i := 50) rfl))) (own_w hw (i := 50) rfl) (own_w hw (i := 49) rfl) (own_w hw (i := 51) rfl) (own_w hw (i := 4) rfl) (by decide) (rm_len hw G so sv ks ((5 : Int32)) ts h0 O0 prem6 prem7 prem8 prem9 (by decide)) e0 (W := 0) (by decide) (by decide) (by decide) (by decide) prem6 (g := (mkF m 10 #[rv ob, rv so, .unset] [(.ref so)])) rfl (by rw [hml]; rfl) (argsL := []) (rest := []) (lenOf pd31 rfl) rfl rfl (Nat.le_of_eq rfl) (D d5_10)
  obtain ⟨rfl, e121, rfl⟩ := q121
  have N121 := Fr.app N0 (Fr.nil _)
  obtain ⟨T122, X122, e122, st122⟩ := getF X121 hx hZ hown (host := "") (Or.inl (own_w hw (i := 60) rfl)) Via.refl e121 prem5 (g := (mkF m 16 #[rv ob, rv so, iv 5] [(.ref ob), (.ref ob)])) rfl rfl (D d5_16)
  obtain ⟨T123, v123, L123, X123, q123, st123⟩ := callPr X122 hx hZ (y := own_m23) hown (own_w hw (i := 62) rfl) (own_w hw (i := 63) rfl) (own_selfsel (own_w hw (i := 63) rfl) (own_w hw (i := 65) rfl) (own_w hw (i := 64) rfl) (by decide)) (own_w hw (i := 64) rfl) (own_w hw (i := 26) rfl) (own_w hw (i := 66) rfl) (by decide) (rm_ecf_7_16 hw G ob va kv bs h0 O0 prem2 prem3 prem4 prem10) e122 (W := 0) (by decide) (by decide) (by decide) (by decide) prem2 (g := (mkF m 21 #[rv ob, rv so, iv 5] [(.int 7), (.ref ob)])) rfl (by rw [hml]; rfl) (a := ob) (argsL := [(.int 7)]) (rest := []) (lenOf pd2 rfl) rfl rfl (Nat.le_of_eq rfl) (D d5_21)
  obtain ⟨rfl, e123, rfl⟩ := q123
  have N123 := Fr.app N121 (Fr.nil _)
  obtain ⟨T124, X124, e124, st124⟩ := getF X123 hx hZ hown (host := "") (Or.inl (own_w hw (i := 60) rfl)) Via.refl e123 prem5 (g := (mkF m 26 #[rv ob, rv so, iv 5] [(.ref ob), (.ref ob)])) rfl rfl (D d5_26)
  obtain ⟨T125, v125, L125, X125, q125, st125⟩ := callPr X124 hx hZ (y := own_m29) hown (own_w hw (i := 67) rfl) (own_w hw (i := 68) rfl) (own_selfsel (own_w hw (i := 68) rfl) (own_w hw (i := 70) rfl) (own_w hw (i := 69) rfl) (by decide)) (own_w hw (i := 69) rfl) (own_w hw (i := 26) rfl) (own_w hw (i := 71) rfl) (by decide) (rm_put_2_5_16 hw G ob so sv ks ts va kv bs h0 O0 (prem0) (prem1) prem2 prem3 prem4 prem6 prem7 prem8 prem9 prem10 prem12) e124 (W := 0) (by decide) (by decide) (by decide) (by decide) prem2 (g := (mkF m 30 #[rv ob, rv so, iv 5] [(.ref so), (.int 2), (.ref ob)])) rfl (by rw [hml]; rfl) (a := ob) (argsL := [(.int 2), (.ref so)]) (rest := []) (lenOf pd32 rfl) rfl rfl (Nat.le_of_eq rfl) (D d5_30)
  obtain ⟨rfl, N125q, K125q, p125_0⟩ := q125
  have N125 := Fr.app N123 N125q
  have O126 := Old0.keep O0 K125q (allS prem12 all0)
  have K126 := Keep.trans K0 K125q (allS (Or.inl (List.mem_of_getElem? (i := 1) rfl)) all0)
  have f128 : Fld Z T125.heap ob "java/lang/AbstractStringBuilder" "count" "I" (.int 2) := (Fld.keep prem5 K125q (ninS prem13 nin0))
  obtain ⟨T127, X127, e127, st127⟩ := getF X125 hx hZ hown (host := "") (Or.inl (own_w hw (i := 60) rfl)) Via.refl rfl f128 (g := (mkF m 35 #[rv ob, rv so, iv 5] [(.ref ob), (.ref ob)])) rfl rfl (D d5_35)
  have f130 : Exa Z T125.heap ob "java/lang/StringBuilder" := (Exa.keep prem2 K125q)
  obtain ⟨T129, h129, X129, e129, W129, st129⟩ := putF X127 hx hZ hown (host := "") (Or.inl (own_w hw (i := 60) rfl)) Via.refl e127 f128 f130 (Or.inl (own_w hw (i := 61) rfl)) (own_w hw (i := 17) rfl) (ty := .int) (by decide) rfl rfl (g := (mkF m 40 #[rv ob, rv so, iv 5] [(.int 7), (.ref ob)])) rfl rfl (D d5_40)
  have O131 := Old0.wr O126 W129 prem11
  have K131 := Keep.wr K126 W129 (Or.inl (List.mem_of_getElem? (i := 0) rfl))
  have N129 := Fr.snoc X129 N125 prem11
  have f129 : Fld Z h129 ob "java/lang/AbstractStringBuilder" "count" "I" (.int 7) := Fld.same W129 f128
  have f132 : Fld Z h129 ob "java/lang/AbstractStringBuilder" "value" "[B" (.ref va) := (Fld.other W129 (Fld.keep prem3 K125q (ninS prem13 nin0)) (Or.inr (slot_ne (Or.inl (own_w hw (i := 33) rfl)) (Or.inl (own_w hw (i := 61) rfl)) (by decide) (t := (.array .byte)) (t' := .int) (by decide) (by decide))))
  have f133 : Fld Z h129 ob "java/lang/AbstractStringBuilder" "coder" "B" (.int 0) := (Fld.other W129 (Fld.keep prem4 K125q (ninS prem13 nin0)) (Or.inr (slot_ne (Or.inl (own_w hw (i := 35) rfl)) (Or.inl (own_w hw (i := 61) rfl)) (by decide) (t := .byte) (t' := .int) (by decide) (by decide))))
  have f134 : Arv Z h129 va kv .byte (16 : Int32) ((bs ++ ts).map Value.int) (.int 0) := (Arv.other p125_0 W129 (Ne.symm prem13))
  refine Go.of (T' := T129) (f' := (mkF m 44 #[rv ob, rv so, iv 5] [(.ref ob)])) (fun _ k => XS.aloadN X0.here hx rfl (D d5_0) rfl rfl (XS.ifnonnullYes X0.here hx rfl (pc0 := 1) (pc' := 9) rfl (D d5_1) rfl (by decide) (by decide) (XS.aloadN X0.here hx rfl (D d5_9) rfl rfl (st121 _ (XS.istoreN X121.here hx rfl (D d5_13) rfl (l' := #[rv ob, rv so, iv 5]) rfl (XS.aloadN X121.here hx rfl (D d5_14) rfl rfl (XS.aloadN X121.here hx rfl (D d5_15) rfl rfl (st122 _ (XS.iloadN X122.here hx rfl (D d5_19) rfl (XS.iadd X122.here hx rfl (D d5_20) rfl (st123 _ (XS.aloadN X123.here hx rfl (D d5_24) rfl rfl (XS.aloadN X123.here hx rfl (D d5_25) rfl rfl (st124 _ (XS.aloadN X124.here hx rfl (D d5_29) rfl rfl (st125 _ (XS.aloadN X125.here hx rfl (D d5_33) rfl rfl (XS.dup X125.here hx rfl (D d5_34) rfl rfl (st127 _ (XS.iloadN X127.here hx rfl (D d5_38) rfl (XS.iadd X127.here hx rfl (D d5_39) rfl (st129 _ (XS.aloadN X129.here hx rfl (D d5_43) rfl rfl k))))))))))))))))))))))) ?_
  exact Go.retA X129 hx hlk hret rfl rfl (D d5_44) (by decide) (by decide) (by rw [e129]; exact ⟨rfl, N129, K131, f132, f133, f129, f134⟩)
theorem ef_rm_sba_2_5_16 (m : MethodId) (ob : Addr) (so : Addr) : entryFrame m #[(.ref ob), (.ref so)] 2 = mkF m 0 #[rv ob, rv so] [] := by first | (simp [entryFrame, mkF, argsToLocals, Value.category]; done) | rfl
set_option maxRecDepth 65536 in
set_option maxHeartbeats 40000000 in
theorem rm_sba_2_5_16 {l : Launch} {Z : State} {a0 : Array Value} {A : Nat → Addr} {KC : Nat → Cell} {IC : Nat → Int32} {VC : Nat → Value} (hw : ∀ d ∈ tables_1, d.before a0 Z = true) (G : own_Ctx Z A KC IC VC) (ob : Addr) (so : Addr) (sv : Addr) (ks : ClassId) (ts : List Int32) (va : Addr) (kv : ClassId) (bs : List Int32) (h0 : Heap) (O0 : Ext Z.heap h0) (prem0 : bs.length = 2) (prem1 : ts.length = 5) (prem2 : Exa Z h0 ob "java/lang/StringBuilder") (prem3 : Fld Z h0 ob "java/lang/AbstractStringBuilder" "value" "[B" (.ref va)) (prem4 : Fld Z h0 ob "java/lang/AbstractStringBuilder" "coder" "B" (.int (0 : Int32))) (prem5 : Fld Z h0 ob "java/lang/AbstractStringBuilder" "count" "I" (.int (2 : Int32))) (prem6 : Exa Z h0 so "java/lang/String") (prem7 : Fld Z h0 so "java/lang/String" "value" "[B" (.ref sv)) (prem8 : Fld Z h0 so "java/lang/String" "coder" "B" (.int (0 : Int32))) (prem9 : Arv Z h0 sv ks .byte (5 : Int32) (ts.map Value.int) (.int (0 : Int32))) (prem10 : Arv Z h0 va kv .byte (16 : Int32) (bs.map Value.int) (.int (0 : Int32))) (prem11 : Z.heap.size ≤ ob) (prem12 : Z.heap.size ≤ va) (prem13 : ob ≠ va) (prem14 : so ≠ ob) (prem15 : sv ≠ ob) (prem16 : so ≠ va) (prem17 : sv ≠ va) :
    Ok l Z own_m36 jdk_67_method_7_code 2 (some (.object "java/lang/StringBuilder")) ({ frames := 4, cells := 0, slots := 0, locals := 61 } : Room) #[(.ref ob), (.ref so)] h0
      (fun v h L => v = some (.ref ob) ∧ (Fr Z.heap.size L) ∧ (Keep h0 h [ob, va]) ∧ (Fld Z h ob "java/lang/AbstractStringBuilder" "value" "[B" (.ref va)) ∧ (Fld Z h ob "java/lang/AbstractStringBuilder" "coder" "B" (.int (0 : Int32))) ∧ (Fld Z h ob "java/lang/AbstractStringBuilder" "count" "I" (.int (7 : Int32))) ∧ (Arv Z h va kv .byte (16 : Int32) ((bs ++ ts).map Value.int) (.int (0 : Int32)))) := by
  refine Ok.mk pn37 ?_
  intro p e s m below meth c T0 hx hby hml hown hnm hret hlk hZ e0 X0
  refine Go.cast (ef_rm_sba_2_5_16 m ob so) ?_
  have D := @hb _ _ hby
  have N0 := Fr.nil Z.heap.size
  have K0 : Keep h0 h0 [ob, va] := Keep.refl _ _
  obtain ⟨T135, v135, L135, X135, q135, st135⟩ := callSu X0 hx hZ (y := own_m33) hown (own_w hw (i := 42) rfl) (nf_mate (own_w hw (i := 65) rfl) rfl) (own_w hw (i := 43) rfl) (own_w hw (i := 44) rfl) (by decide) (own_w hw (i := 46) rfl) (own_w hw (i := 26) rfl) (by decide) (rm_aba_2_5_16 hw G ob so sv ks ts va kv bs h0 O0 (prem0) (prem1) prem2 prem3 prem4 prem5 prem6 prem7 prem8 prem9 prem10 prem11 prem12 prem13 prem14 prem15 prem16 prem17) e0 (W := 0) (by decide) (by decide) (by decide) (by decide) (Ins.self prem2) (g := (mkF m 2 #[rv ob, rv so] [(.ref so), (.ref ob)])) rfl (by rw [hml]; rfl) (argsL := [(.ref so)]) (rest := []) (lenOf pd35 rfl) rfl rfl (Nat.le_of_eq rfl) (D d4_2)
  obtain ⟨rfl, N135q, K135q, p135_0, p135_1, p135_2, p135_3⟩ := q135
  have N135 := Fr.app N0 N135q
  have O136 := Old0.keep O0 K135q (allS prem11 (allS prem12 all0))
  have K136 := Keep.trans K0 K135q (allS (Or.inl (List.mem_of_getElem? (i := 0) rfl)) (allS (Or.inl (List.mem_of_getElem? (i := 1) rfl)) all0))
  refine Go.of (T' := T135) (f' := (mkF m 7 #[rv ob, rv so] [(.ref ob)])) (fun _ k => XS.aloadN X0.here hx rfl (D d4_0) rfl rfl (XS.aloadN X0.here hx rfl (D d4_1) rfl rfl (st135 _ (XT.pop X135.here hx rfl (D d4_5) rfl rfl (XS.aloadN X135.here hx rfl (D d4_6) rfl rfl k))))) ?_
  exact Go.retA X135 hx hlk hret rfl rfl (D d4_7) (by decide) (by decide) ⟨rfl, N135, K136, p135_0, p135_1, p135_2, p135_3⟩
theorem ef_rm_ecf_16_16 (m : MethodId) (ob : Addr) : entryFrame m #[(.ref ob), (.int (16 : Int32))] 3 = mkF m 0 #[rv ob, iv (16 : Int32), .unset] [] := by first | (simp [entryFrame, mkF, argsToLocals, Value.category]; done) | rfl
set_option maxRecDepth 65536 in
set_option maxHeartbeats 40000000 in
theorem rm_ecf_16_16 {l : Launch} {Z : State} {a0 : Array Value} {A : Nat → Addr} {KC : Nat → Cell} {IC : Nat → Int32} {VC : Nat → Value} (hw : ∀ d ∈ tables_1, d.before a0 Z = true) (G : own_Ctx Z A KC IC VC) (ob : Addr) (va : Addr) (kv : ClassId) (bs : List Int32) (h0 : Heap) (O0 : Ext Z.heap h0) (prem0 : Exa Z h0 ob "java/lang/StringBuilder") (prem1 : Fld Z h0 ob "java/lang/AbstractStringBuilder" "value" "[B" (.ref va)) (prem2 : Fld Z h0 ob "java/lang/AbstractStringBuilder" "coder" "B" (.int (0 : Int32))) (prem3 : Arv Z h0 va kv .byte (16 : Int32) (bs.map Value.int) (.int (0 : Int32))) :
    Ok l Z own_m23 jdk_68_method_9_code 3 none ({ frames := 0, cells := 0, slots := 0, locals := 0 } : Room) #[(.ref ob), (.int (16 : Int32))] h0
      (fun v h L => v = none ∧ (h = h0) ∧ (L = [])) := by
  refine Ok.mk pn24 ?_
  intro p e s m below meth c T0 hx hby hml hown hnm hret hlk hZ e0 X0
  refine Go.cast (ef_rm_ecf_16_16 m ob) ?_
  have D := @hb _ _ hby
  have N0 := Fr.nil Z.heap.size
  have K0 : Keep h0 h0 [] := Keep.refl _ _
  obtain ⟨T137, X137, e137, st137⟩ := getF X0 hx hZ hown (host := "") (Or.inl (own_w hw (i := 32) rfl)) Via.refl e0 prem1 (g := (mkF m 1 #[rv ob, iv 16, .unset] [(.ref ob)])) rfl rfl (D d8_1)
  obtain ⟨cl138, Ar138, qk138, S138, Ng138, H138, G138⟩ := id prem3
  obtain ⟨T139, X139, e139, st139⟩ := getF X137 hx hZ hown (host := "") (Or.inl (own_w hw (i := 34) rfl)) Via.refl e137 prem2 (g := (mkF m 6 #[rv ob, iv 16, .unset] [(.ref ob), (.int 16)])) rfl rfl (D d8_6)
  refine Go.of (T' := T139) (f' := (mkF m 38 #[rv ob, iv 16, iv 16] [])) (fun _ k => XS.aloadN X0.here hx rfl (D d8_0) rfl rfl (st137 _ (X137.arraylength hx (by rw [e137]; exact Ar138.1) (State.isArrayOf_alike hZ.alike Ar138.2.1) (g := (mkF m 4 #[rv ob, iv 16, .unset] [(.ref va)])) rfl rfl (D d8_4) _ (by rw [len_of S138 Ng138]; exact (XS.aloadN X137.here hx rfl (D d8_5) rfl rfl (st139 _ (XS.ishr X139.here hx rfl (D d8_9) rfl (XS.istoreN X139.here hx rfl (D d8_10) rfl (l' := #[rv ob, iv 16, iv 16]) rfl (XS.iloadN X139.here hx rfl (D d8_11) rfl (XS.iloadN X139.here hx rfl (D d8_12) rfl (XS.isub X139.here hx rfl (D d8_13) rfl (XS.ifYes X139.here hx rfl (pc0 := 14) (pc' := 38) rfl (D d8_14) rfl ((if0 _ _).trans (flt (by decide : ¬ ((0 : Int32) < (0 : Int32)))).2.2.2) (by decide) (by decide) k)))))))))))) ?_
  exact Go.retV X139 hx hlk hret (D d8_38) (by decide) (by decide) (by rw [e139]; exact ⟨rfl, rfl, by simp⟩)
theorem ef_rm_getb_7_9_16 (m : MethodId) (so : Addr) (va : Addr) : entryFrame m #[(.ref so), (.ref va), (.int (7 : Int32)), (.int (0 : Int32))] 4 = mkF m 0 #[rv so, rv va, iv (7 : Int32), iv (0 : Int32)] [] := by first | (simp [entryFrame, mkF, argsToLocals, Value.category]; done) | rfl
set_option maxRecDepth 65536 in
set_option maxHeartbeats 40000000 in
theorem rm_getb_7_9_16 {l : Launch} {Z : State} {a0 : Array Value} {A : Nat → Addr} {KC : Nat → Cell} {IC : Nat → Int32} {VC : Nat → Value} (hw : ∀ d ∈ tables_1, d.before a0 Z = true) (G : own_Ctx Z A KC IC VC) (so : Addr) (va : Addr) (sv : Addr) (ks : ClassId) (ts : List Int32) (kv : ClassId) (bs : List Int32) (h0 : Heap) (O0 : Ext Z.heap h0) (prem0 : bs.length = 7) (prem1 : ts.length = 9) (prem2 : Exa Z h0 so "java/lang/String") (prem3 : Fld Z h0 so "java/lang/String" "value" "[B" (.ref sv)) (prem4 : Fld Z h0 so "java/lang/String" "coder" "B" (.int (0 : Int32))) (prem5 : Arv Z h0 sv ks .byte (9 : Int32) (ts.map Value.int) (.int (0 : Int32))) (prem6 : Arv Z h0 va kv .byte (16 : Int32) (bs.map Value.int) (.int (0 : Int32))) (prem7 : Z.heap.size ≤ va) :
    Ok l Z own_m25 jdk_42_method_147_code 4 none ({ frames := 1, cells := 0, slots := 0, locals := 18 } : Room) #[(.ref so), (.ref va), (.int (7 : Int32)), (.int (0 : Int32))] h0
      (fun v h L => v = none ∧ (Fr Z.heap.size L) ∧ (Keep h0 h [va]) ∧ (Arv Z h va kv .byte (16 : Int32) ((bs ++ ts).map Value.int) (.int (0 : Int32)))) := by
  refine Ok.mk pn26 ?_
  intro p e s m below meth c T0 hx hby hml hown hnm hret hlk hZ e0 X0
  refine Go.cast (ef_rm_getb_7_9_16 m so va) ?_
  have D := @hb _ _ hby
  have N0 := Fr.nil Z.heap.size
  have K0 : Keep h0 h0 [va] := Keep.refl _ _
  obtain ⟨T141, v141, L141, X141, q141, st141⟩ := callVi X0 hx hZ (y := own_m5) (z := own_m5) hown (own_w hw (i := 53) rfl) (own_w hw (i := 54) rfl) (notFace_of_selects (args := #[]) (mvT hZ (own_w hw (i := 56) rfl))) (own_w hw (i := 56) rfl) (own_w hw (i := 55) rfl) (own_w hw (i := 57) rfl) (own_w hw (i := 4) rfl) (by decide) (rm_coder hw G so  h0 O0 prem4) e0 (W := 0) (by decide) (by decide) (by decide) (by decide) prem2 (g := (mkF m 1 #[rv so, rv va, iv 7, iv 0] [(.ref so)])) rfl (by rw [hml]; rfl) (argsL := []) (rest := []) (lenOf pd7 rfl) rfl rfl (Nat.le_of_eq rfl) (D d11_1)
  obtain ⟨rfl, e141, rfl⟩ := q141
  have N141 := Fr.app N0 (Fr.nil _)
  obtain ⟨T143, X143, e143, st143⟩ := getF X141 hx hZ hown (host := "") (Or.inl (own_w hw (i := 52) rfl)) Via.refl e141 prem3 (g := (mkF m 9 #[rv so, rv va, iv 7, iv 0] [(.ref so)])) rfl rfl (D d11_9)
  obtain ⟨T144, X144, e144, st144⟩ := getF X143 hx hZ hown (host := "") (Or.inl (own_w hw (i := 52) rfl)) Via.refl e143 prem3 (g := (mkF m 18 #[rv so, rv va, iv 7, iv 0] [(.ref so), (.int 7), (.ref va), (.int 0), (.ref sv)])) rfl rfl (D d11_18)
  obtain ⟨cl145, Ar145, qk145, S145, Ng145, H145, G145⟩ := id prem5
  obtain ⟨T146, h146, L146, X146, e146, N146, Kq146, V146, st146⟩ := own_cpG X144 hx hZ hown (own_w hw (i := 83) rfl) (own_w hw (i := 86) rfl) (own_w hw (i := 84) rfl) (own_w hw (i := 85) rfl) e144 prem5 prem6 (dp := (7 : Int32)) (nn := (9 : Int32)) (by rw [prem0]; decide) (by decide) (by decide) (by rw [prem1]; decide) (by decide) (by decide) N141 prem7 (g := (mkF m 22 #[rv so, rv va, iv 7, iv 0] [(.int 9), (.int 7), (.ref va), (.int 0), (.ref sv)])) rfl (by rw [hml]; rfl) rfl (D d11_22) (by decide) (W := 0) (Nat.le_of_eq rfl) (by decide)
  have O147 := Old0.keep O0 Kq146 (allS prem7 all0)
  have K147 := Keep.trans K0 Kq146 (allS (Or.inl (List.mem_of_getElem? (i := 0) rfl)) all0)
  refine Go.of (T' := T146) (f' := (mkF m 43 #[rv so, rv va, iv 7, iv 0] [])) (fun _ k => XS.aloadN X0.here hx rfl (D d11_0) rfl rfl (st141 _ (XS.iloadN X141.here hx rfl (D d11_4) rfl (XS.icmpNo X141.here hx rfl (D d11_5) rfl (teq (by decide : (0 : Int32) = (0 : Int32))).2 (XS.aloadN X141.here hx rfl (D d11_8) rfl rfl (st143 _ (XS.iconst X143.here hx rfl (D d11_12) (XS.aloadN X143.here hx rfl (D d11_13) rfl rfl (XS.iloadN X143.here hx rfl (D d11_14) rfl (XS.iloadN X143.here hx rfl (D d11_15) rfl (XS.ishl X143.here hx rfl (D d11_16) rfl (XS.aloadN X143.here hx rfl (D d11_17) rfl rfl (st144 _ (X144.arraylength hx (by rw [e144]; exact Ar145.1) (State.isArrayOf_alike hZ.alike Ar145.2.1) (g := (mkF m 21 #[rv so, rv va, iv 7, iv 0] [(.ref sv), (.int 7), (.ref va), (.int 0), (.ref sv)])) rfl rfl (D d11_21) _ (by rw [len_of S145 Ng145]; exact (st146 _ (XS.goto X146.here hx rfl (pc0 := 25) (pc' := 43) rfl (D d11_25) (by decide) (by decide) k))))))))))))))))) ?_
  exact Go.retV X146 hx hlk hret (D d11_43) (by decide) (by decide) (by rw [e146]; exact ⟨rfl, N146, K147, V146⟩)
theorem ef_rm_put_7_9_16 (m : MethodId) (ob : Addr) (so : Addr) : entryFrame m #[(.ref ob), (.int (7 : Int32)), (.ref so)] 3 = mkF m 0 #[rv ob, iv (7 : Int32), rv so] [] := by first | (simp [entryFrame, mkF, argsToLocals, Value.category]; done) | rfl
set_option maxRecDepth 65536 in
set_option maxHeartbeats 40000000 in
theorem rm_put_7_9_16 {l : Launch} {Z : State} {a0 : Array Value} {A : Nat → Addr} {KC : Nat → Cell} {IC : Nat → Int32} {VC : Nat → Value} (hw : ∀ d ∈ tables_1, d.before a0 Z = true) (G : own_Ctx Z A KC IC VC) (ob : Addr) (so : Addr) (sv : Addr) (ks : ClassId) (ts : List Int32) (va : Addr) (kv : ClassId) (bs : List Int32) (h0 : Heap) (O0 : Ext Z.heap h0) (prem0 : bs.length = 7) (prem1 : ts.length = 9) (prem2 : Exa Z h0 ob "java/lang/StringBuilder") (prem3 : Fld Z h0 ob "java/lang/AbstractStringBuilder" "value" "[B" (.ref va)) (prem4 : Fld Z h0 ob "java/lang/AbstractStringBuilder" "coder" "B" (.int (0 : Int32))) (prem5 : Exa Z h0 so "java/lang/String") (prem6 : Fld Z h0 so "java/lang/String" "value" "[B" (.ref sv)) (prem7 : Fld Z h0 so "java/lang/String" "coder" "B" (.int (0 : Int32))) (prem8 : Arv Z h0 sv ks .byte (9 : Int32) (ts.map Value.int) (.int (0 : Int32))) (prem9 : Arv Z h0 va kv .byte (16 : Int32) (bs.map Value.int) (.int (0 : Int32))) (prem10 : Z.heap.size ≤ va) :
    Ok l Z own_m29 jdk_68_method_73_code 3 none ({ frames := 2, cells := 0, slots := 0, locals := 33 } : Room) #[(.ref ob), (.int (7 : Int32)), (.ref so)] h0
      (fun v h L => v = none ∧ (Fr Z.heap.size L) ∧ (Keep h0 h [va]) ∧ (Arv Z h va kv .byte (16 : Int32) ((bs ++ ts).map Value.int) (.int (0 : Int32)))) := by
  refine Ok.mk pn30 ?_
  intro p e s m below meth c T0 hx hby hml hown hnm hret hlk hZ e0 X0
  refine Go.cast (ef_rm_put_7_9_16 m ob so) ?_
  have D := @hb _ _ hby
  have N0 := Fr.nil Z.heap.size
  have K0 : Keep h0 h0 [va] := Keep.refl _ _
  obtain ⟨T148, v148, L148, X148, q148, st148⟩ := callPr X0 hx hZ (y := own_m10) hown (own_w hw (i := 72) rfl) (own_w hw (i := 73) rfl) (own_selfsel (own_w hw (i := 73) rfl) (own_w hw (i := 75) rfl) (own_w hw (i := 74) rfl) (by decide)) (own_w hw (i := 74) rfl) (own_w hw (i := 26) rfl) (own_w hw (i := 76) rfl) (by decide) (rm_infl hw G ob so  h0 O0 prem4 prem5 prem7) e0 (W := 0) (by decide) (by decide) (by decide) (by decide) prem2 (g := (mkF m 2 #[rv ob, iv 7, rv so] [(.ref so), (.ref ob)])) rfl (by rw [hml]; rfl) (a := ob) (argsL := [(.ref so)]) (rest := []) (lenOf pd27 rfl) rfl rfl (Nat.le_of_eq rfl) (D d9_2)
  obtain ⟨rfl, e148, rfl⟩ := q148
  have N148 := Fr.app N0 (Fr.nil _)
  obtain ⟨T149, X149, e149, st149⟩ := getF X148 hx hZ hown (host := "") (Or.inl (own_w hw (i := 32) rfl)) Via.refl e148 prem3 (g := (mkF m 7 #[rv ob, iv 7, rv so] [(.ref ob), (.ref so)])) rfl rfl (D d9_7)
  obtain ⟨T150, X150, e150, st150⟩ := getF X149 hx hZ hown (host := "") (Or.inl (own_w hw (i := 34) rfl)) Via.refl e149 prem4 (g := (mkF m 12 #[rv ob, iv 7, rv so] [(.ref ob), (.int 7), (.ref va), (.ref so)])) rfl rfl (D d9_12)
  obtain ⟨T151, v151, L151, X151, q151, st151⟩ := callVi X150 hx hZ (y := own_m25) (z := own_m25) hown (own_w hw (i := 78) rfl) (own_w hw (i := 79) rfl) (notFace_of_selects (args := #[]) (mvT hZ (own_w hw (i := 81) rfl))) (own_w hw (i := 81) rfl) (own_w hw (i := 80) rfl) (own_w hw (i := 82) rfl) (own_w hw (i := 4) rfl) (by decide) (rm_getb_7_9_16 hw G so va sv ks ts kv bs h0 O0 (prem0) (prem1) prem5 prem6 prem7 prem8 prem9 prem10) e150 (W := 0) (by decide) (by decide) (by decide) (by decide) prem5 (g := (mkF m 15 #[rv ob, iv 7, rv so] [(.int 0), (.int 7), (.ref va), (.ref so)])) rfl (by rw [hml]; rfl) (argsL := [(.ref va), (.int 7), (.int 0)]) (rest := []) (lenOf pd28 rfl) rfl rfl (Nat.le_of_eq rfl) (D d9_15)
  obtain ⟨rfl, N151q, K151q, p151_0⟩ := q151
  have N151 := Fr.app N148 N151q
  have O152 := Old0.keep O0 K151q (allS prem10 all0)
  have K152 := Keep.trans K0 K151q (allS (Or.inl (List.mem_of_getElem? (i := 0) rfl)) all0)
  refine Go.of (T' := T151) (f' := (mkF m 18 #[rv ob, iv 7, rv so] [])) (fun _ k => XS.aloadN X0.here hx rfl (D d9_0) rfl rfl (XS.aloadN X0.here hx rfl (D d9_1) rfl rfl (st148 _ (XS.aloadN X148.here hx rfl (D d9_5) rfl rfl (XS.aloadN X148.here hx rfl (D d9_6) rfl rfl (st149 _ (XS.iloadN X149.here hx rfl (D d9_10) rfl (XS.aloadN X149.here hx rfl (D d9_11) rfl rfl (st150 _ (st151 _ k)))))))))) ?_
  exact Go.retV X151 hx hlk hret (D d9_18) (by decide) (by decide) ⟨rfl, N151, K152, p151_0⟩
theorem ef_rm_aba_7_9_16 (m : MethodId) (ob : Addr) (so : Addr) : entryFrame m #[(.ref ob), (.ref so)] 3 = mkF m 0 #[rv ob, rv so, .unset] [] := by first | (simp [entryFrame, mkF, argsToLocals, Value.category]; done) | rfl
set_option maxRecDepth 65536 in
set_option maxHeartbeats 40000000 in
theorem rm_aba_7_9_16 {l : Launch} {Z : State} {a0 : Array Value} {A : Nat → Addr} {KC : Nat → Cell} {IC : Nat → Int32} {VC : Nat → Value} (hw : ∀ d ∈ tables_1, d.before a0 Z = true) (G : own_Ctx Z A KC IC VC) (ob : Addr) (so : Addr) (sv : Addr) (ks : ClassId) (ts : List Int32) (va : Addr) (kv : ClassId) (bs : List Int32) (h0 : Heap) (O0 : Ext Z.heap h0) (prem0 : bs.length = 7) (prem1 : ts.length = 9) (prem2 : Exa Z h0 ob "java/lang/StringBuilder") (prem3 : Fld Z h0 ob "java/lang/AbstractStringBuilder" "value" "[B" (.ref va)) (prem4 : Fld Z h0 ob "java/lang/AbstractStringBuilder" "coder" "B" (.int (0 : Int32))) (prem5 : Fld Z h0 ob "java/lang/AbstractStringBuilder" "count" "I" (.int (7 : Int32))) (prem6 : Exa Z h0 so "java/lang/String") (prem7 : Fld Z h0 so "java/lang/String" "value" "[B" (.ref sv)) (prem8 : Fld Z h0 so "java/lang/String" "coder" "B" (.int (0 : Int32))) (prem9 : Arv Z h0 sv ks .byte (9 : Int32) (ts.map Value.int) (.int (0 : Int32))) (prem10 : Arv Z h0 va kv .byte (16 : Int32) (bs.map Value.int) (.int (0 : Int32))) (prem11 : Z.heap.size ≤ ob) (prem12 : Z.heap.size ≤ va) (prem13 : ob ≠ va) (prem14 : so ≠ ob) (prem15 : sv ≠ ob) (prem16 : so ≠ va) (prem17 : sv ≠ va) :
    Ok l Z own_m33 jdk_68_method_22_code 3 (some (.object "java/lang/AbstractStringBuilder")) ({ frames := 3, cells := 0, slots := 0, locals := 47 } : Room) #[(.ref ob), (.ref so)] h0
      (fun v h L => v = some (.ref ob) ∧ (Fr Z.heap.size L) ∧ (Keep h0 h [ob, va]) ∧ (Fld Z h ob "java/lang/AbstractStringBuilder" "value" "[B" (.ref va)) ∧ (Fld Z h ob "java/lang/AbstractStringBuilder" "coder" "B" (.int (0 : Int32))) ∧ (Fld Z h ob "java/lang/AbstractStringBuilder" "count" "I" (.int (16 : Int32))) ∧ (Arv Z h va kv .byte (16 : Int32) ((bs ++ ts).map Value.int) (.int (0 : Int32)))) := by
  refine Ok.mk pn34 ?_
  intro p e s m below meth c T0 hx hby hml hown hnm hret hlk hZ e0 X0
  refine Go.cast (ef_rm_aba_7_9_16 m ob so) ?_
  have D := @hb _ _ hby
  have N0 := Fr.nil Z.heap.size
  have K0 : Keep h0 h0 [ob, va] := Keep.refl _ _
  obtain ⟨T153, v153, L153, X153, q153, st153⟩ := callVi X0 hx hZ (y := own_m8) (z := own_m8) hown (own_w hw (i := 47) rfl) (own_w hw (i := 48) rfl) (notFace_of_selects (args := #[]) (mvT hZ (own_w hw (i := 50) rfl))) (own_w hw (i := 50) rfl) (own_w hw (i := 49) rfl) (own_w hw (i := 51) rfl) (own_w hw (i := 4) rfl) (by decide) (rm_len hw G so sv ks ((9 : Int32)) ts h0 O0 prem6 prem7 prem8 prem9 (by decide)) e0 (W := 0) (by decide) (by decide) (by decide) (by decide) prem6 (g := (mkF m 10 #[rv ob, rv so, .unset] [(.ref so)])) rfl (by rw [hml]; rfl) (argsL := []) (rest := []) (lenOf pd31 rfl) rfl rfl (Nat.le_of_eq rfl) (D d5_10)
  obtain ⟨rfl, e153, rfl⟩ := q153
  have N153 := Fr.app N0 (Fr.nil _)
  obtain ⟨T154, X154, e154, st154⟩ := getF X153 hx hZ hown (host := "") (Or.inl (own_w hw (i := 60) rfl)) Via.refl e153 prem5 (g := (mkF m 16 #[rv ob, rv so, iv 9] [(.ref ob), (.ref ob)])) rfl rfl (D d5_16)
  obtain ⟨T155, v155, L155, X155, q155, st155⟩ := callPr X154 hx hZ (y := own_m23) hown (own_w hw (i := 62) rfl) (own_w hw (i := 63) rfl) (own_selfsel (own_w hw (i := 63) rfl) (own_w hw (i := 65) rfl) (own_w hw (i := 64) rfl) (by decide)) (own_w hw (i := 64) rfl) (own_w hw (i := 26) rfl) (own_w hw (i := 66) rfl) (by decide) (rm_ecf_16_16 hw G ob va kv bs h0 O0 prem2 prem3 prem4 prem10) e154 (W := 0) (by decide) (by decide) (by decide) (by decide) prem2 (g := (mkF m 21 #[rv ob, rv so, iv 9] [(.int 16), (.ref ob)])) rfl (by rw [hml]; rfl) (a := ob) (argsL := [(.int 16)]) (rest := []) (lenOf pd2 rfl) rfl rfl (Nat.le_of_eq rfl) (D d5_21)
  obtain ⟨rfl, e155, rfl⟩ := q155
  have N155 := Fr.app N153 (Fr.nil _)
  obtain ⟨T156, X156, e156, st156⟩ := getF X155 hx hZ hown (host := "") (Or.inl (own_w hw (i := 60) rfl)) Via.refl e155 prem5 (g := (mkF m 26 #[rv ob, rv so, iv 9] [(.ref ob), (.ref ob)])) rfl rfl (D d5_26)
  obtain ⟨T157, v157, L157, X157, q157, st157⟩ := callPr X156 hx hZ (y := own_m29) hown (own_w hw (i := 67) rfl) (own_w hw (i := 68) rfl) (own_selfsel (own_w hw (i := 68) rfl) (own_w hw (i := 70) rfl) (own_w hw (i := 69) rfl) (by decide)) (own_w hw (i := 69) rfl) (own_w hw (i := 26) rfl) (own_w hw (i := 71) rfl) (by decide) (rm_put_7_9_16 hw G ob so sv ks ts va kv bs h0 O0 (prem0) (prem1) prem2 prem3 prem4 prem6 prem7 prem8 prem9 prem10 prem12) e156 (W := 0) (by decide) (by decide) (by decide) (by decide) prem2 (g := (mkF m 30 #[rv ob, rv so, iv 9] [(.ref so), (.int 7), (.ref ob)])) rfl (by rw [hml]; rfl) (a := ob) (argsL := [(.int 7), (.ref so)]) (rest := []) (lenOf pd32 rfl) rfl rfl (Nat.le_of_eq rfl) (D d5_30)
  obtain ⟨rfl, N157q, K157q, p157_0⟩ := q157
  have N157 := Fr.app N155 N157q
  have O158 := Old0.keep O0 K157q (allS prem12 all0)
  have K158 := Keep.trans K0 K157q (allS (Or.inl (List.mem_of_getElem? (i := 1) rfl)) all0)
  have f160 : Fld Z T157.heap ob "java/lang/AbstractStringBuilder" "count" "I" (.int 7) := (Fld.keep prem5 K157q (ninS prem13 nin0))
  obtain ⟨T159, X159, e159, st159⟩ := getF X157 hx hZ hown (host := "") (Or.inl (own_w hw (i := 60) rfl)) Via.refl rfl f160 (g := (mkF m 35 #[rv ob, rv so, iv 9] [(.ref ob), (.ref ob)])) rfl rfl (D d5_35)
  have f162 : Exa Z T157.heap ob "java/lang/StringBuilder" := (Exa.keep prem2 K157q)
  obtain ⟨T161, h161, X161, e161, W161, st161⟩ := putF X159 hx hZ hown (host := "") (Or.inl (own_w hw (i := 60) rfl)) Via.refl e159 f160 f162 (Or.inl (own_w hw (i := 61) rfl)) (own_w hw (i := 17) rfl) (ty := .int) (by decide) rfl rfl (g := (mkF m 40 #[rv ob, rv so, iv 9] [(.int 16), (.ref ob)])) rfl rfl (D d5_40)
  have O163 := Old0.wr O158 W161 prem11
  have K163 := Keep.wr K158 W161 (Or.inl (List.mem_of_getElem? (i := 0) rfl))
  have N161 := Fr.snoc X161 N157 prem11
  have f161 : Fld Z h161 ob "java/lang/AbstractStringBuilder" "count" "I" (.int 16) := Fld.same W161 f160
  have f164 : Fld Z h161 ob "java/lang/AbstractStringBuilder" "value" "[B" (.ref va) := (Fld.other W161 (Fld.keep prem3 K157q (ninS prem13 nin0)) (Or.inr (slot_ne (Or.inl (own_w hw (i := 33) rfl)) (Or.inl (own_w hw (i := 61) rfl)) (by decide) (t := (.array .byte)) (t' := .int) (by decide) (by decide))))
  have f165 : Fld Z h161 ob "java/lang/AbstractStringBuilder" "coder" "B" (.int 0) := (Fld.other W161 (Fld.keep prem4 K157q (ninS prem13 nin0)) (Or.inr (slot_ne (Or.inl (own_w hw (i := 35) rfl)) (Or.inl (own_w hw (i := 61) rfl)) (by decide) (t := .byte) (t' := .int) (by decide) (by decide))))
  have f166 : Arv Z h161 va kv .byte (16 : Int32) ((bs ++ ts).map Value.int) (.int 0) := (Arv.other p157_0 W161 (Ne.symm prem13))
  refine Go.of (T' := T161) (f' := (mkF m 44 #[rv ob, rv so, iv 9] [(.ref ob)])) (fun _ k => XS.aloadN X0.here hx rfl (D d5_0) rfl rfl (XS.ifnonnullYes X0.here hx rfl (pc0 := 1) (pc' := 9) rfl (D d5_1) rfl (by decide) (by decide) (XS.aloadN X0.here hx rfl (D d5_9) rfl rfl (st153 _ (XS.istoreN X153.here hx rfl (D d5_13) rfl (l' := #[rv ob, rv so, iv 9]) rfl (XS.aloadN X153.here hx rfl (D d5_14) rfl rfl (XS.aloadN X153.here hx rfl (D d5_15) rfl rfl (st154 _ (XS.iloadN X154.here hx rfl (D d5_19) rfl (XS.iadd X154.here hx rfl (D d5_20) rfl (st155 _ (XS.aloadN X155.here hx rfl (D d5_24) rfl rfl (XS.aloadN X155.here hx rfl (D d5_25) rfl rfl (st156 _ (XS.aloadN X156.here hx rfl (D d5_29) rfl rfl (st157 _ (XS.aloadN X157.here hx rfl (D d5_33) rfl rfl (XS.dup X157.here hx rfl (D d5_34) rfl rfl (st159 _ (XS.iloadN X159.here hx rfl (D d5_38) rfl (XS.iadd X159.here hx rfl (D d5_39) rfl (st161 _ (XS.aloadN X161.here hx rfl (D d5_43) rfl rfl k))))))))))))))))))))))) ?_
  exact Go.retA X161 hx hlk hret rfl rfl (D d5_44) (by decide) (by decide) (by rw [e161]; exact ⟨rfl, N161, K163, f164, f165, f161, f166⟩)
theorem ef_rm_sba_7_9_16 (m : MethodId) (ob : Addr) (so : Addr) : entryFrame m #[(.ref ob), (.ref so)] 2 = mkF m 0 #[rv ob, rv so] [] := by first | (simp [entryFrame, mkF, argsToLocals, Value.category]; done) | rfl
set_option maxRecDepth 65536 in
set_option maxHeartbeats 40000000 in
theorem rm_sba_7_9_16 {l : Launch} {Z : State} {a0 : Array Value} {A : Nat → Addr} {KC : Nat → Cell} {IC : Nat → Int32} {VC : Nat → Value} (hw : ∀ d ∈ tables_1, d.before a0 Z = true) (G : own_Ctx Z A KC IC VC) (ob : Addr) (so : Addr) (sv : Addr) (ks : ClassId) (ts : List Int32) (va : Addr) (kv : ClassId) (bs : List Int32) (h0 : Heap) (O0 : Ext Z.heap h0) (prem0 : bs.length = 7) (prem1 : ts.length = 9) (prem2 : Exa Z h0 ob "java/lang/StringBuilder") (prem3 : Fld Z h0 ob "java/lang/AbstractStringBuilder" "value" "[B" (.ref va)) (prem4 : Fld Z h0 ob "java/lang/AbstractStringBuilder" "coder" "B" (.int (0 : Int32))) (prem5 : Fld Z h0 ob "java/lang/AbstractStringBuilder" "count" "I" (.int (7 : Int32))) (prem6 : Exa Z h0 so "java/lang/String") (prem7 : Fld Z h0 so "java/lang/String" "value" "[B" (.ref sv)) (prem8 : Fld Z h0 so "java/lang/String" "coder" "B" (.int (0 : Int32))) (prem9 : Arv Z h0 sv ks .byte (9 : Int32) (ts.map Value.int) (.int (0 : Int32))) (prem10 : Arv Z h0 va kv .byte (16 : Int32) (bs.map Value.int) (.int (0 : Int32))) (prem11 : Z.heap.size ≤ ob) (prem12 : Z.heap.size ≤ va) (prem13 : ob ≠ va) (prem14 : so ≠ ob) (prem15 : sv ≠ ob) (prem16 : so ≠ va) (prem17 : sv ≠ va) :
    Ok l Z own_m36 jdk_67_method_7_code 2 (some (.object "java/lang/StringBuilder")) ({ frames := 4, cells := 0, slots := 0, locals := 61 } : Room) #[(.ref ob), (.ref so)] h0
      (fun v h L => v = some (.ref ob) ∧ (Fr Z.heap.size L) ∧ (Keep h0 h [ob, va]) ∧ (Fld Z h ob "java/lang/AbstractStringBuilder" "value" "[B" (.ref va)) ∧ (Fld Z h ob "java/lang/AbstractStringBuilder" "coder" "B" (.int (0 : Int32))) ∧ (Fld Z h ob "java/lang/AbstractStringBuilder" "count" "I" (.int (16 : Int32))) ∧ (Arv Z h va kv .byte (16 : Int32) ((bs ++ ts).map Value.int) (.int (0 : Int32)))) := by
  refine Ok.mk pn37 ?_
  intro p e s m below meth c T0 hx hby hml hown hnm hret hlk hZ e0 X0
  refine Go.cast (ef_rm_sba_7_9_16 m ob so) ?_
  have D := @hb _ _ hby
  have N0 := Fr.nil Z.heap.size
  have K0 : Keep h0 h0 [ob, va] := Keep.refl _ _
  obtain ⟨T167, v167, L167, X167, q167, st167⟩ := callSu X0 hx hZ (y := own_m33) hown (own_w hw (i := 42) rfl) (nf_mate (own_w hw (i := 65) rfl) rfl) (own_w hw (i := 43) rfl) (own_w hw (i := 44) rfl) (by decide) (own_w hw (i := 46) rfl) (own_w hw (i := 26) rfl) (by decide) (rm_aba_7_9_16 hw G ob so sv ks ts va kv bs h0 O0 (prem0) (prem1) prem2 prem3 prem4 prem5 prem6 prem7 prem8 prem9 prem10 prem11 prem12 prem13 prem14 prem15 prem16 prem17) e0 (W := 0) (by decide) (by decide) (by decide) (by decide) (Ins.self prem2) (g := (mkF m 2 #[rv ob, rv so] [(.ref so), (.ref ob)])) rfl (by rw [hml]; rfl) (argsL := [(.ref so)]) (rest := []) (lenOf pd35 rfl) rfl rfl (Nat.le_of_eq rfl) (D d4_2)
  obtain ⟨rfl, N167q, K167q, p167_0, p167_1, p167_2, p167_3⟩ := q167
  have N167 := Fr.app N0 N167q
  have O168 := Old0.keep O0 K167q (allS prem11 (allS prem12 all0))
  have K168 := Keep.trans K0 K167q (allS (Or.inl (List.mem_of_getElem? (i := 0) rfl)) (allS (Or.inl (List.mem_of_getElem? (i := 1) rfl)) all0))
  refine Go.of (T' := T167) (f' := (mkF m 7 #[rv ob, rv so] [(.ref ob)])) (fun _ k => XS.aloadN X0.here hx rfl (D d4_0) rfl rfl (XS.aloadN X0.here hx rfl (D d4_1) rfl rfl (st167 _ (XT.pop X167.here hx rfl (D d4_5) rfl rfl (XS.aloadN X167.here hx rfl (D d4_6) rfl rfl k))))) ?_
  exact Go.retA X167 hx hlk hret rfl rfl (D d4_7) (by decide) (by decide) ⟨rfl, N167, K168, p167_0, p167_1, p167_2, p167_3⟩
theorem d17_0 : decode jdk_29_method_65_code 0 = .ok (.iload_n 0, 1) := by decide +kernel
theorem d17_1 : decode jdk_29_method_65_code 1 = .ok (.iload_n 1, 1) := by decide +kernel
theorem d17_2 : decode jdk_29_method_65_code 2 = .ok (.if_icmp .lt 7, 3) := by decide +kernel
theorem d17_9 : decode jdk_29_method_65_code 9 = .ok (.iload_n 1, 1) := by decide +kernel
theorem d17_10 : decode jdk_29_method_65_code 10 = .ok (.ireturn, 1) := by decide +kernel
abbrev own_m38 : MethodName := (⟨"java/lang/Math", "max", "(II)I"⟩ : MethodName)
theorem ef_rm_max_1_18 (m : MethodId)  : entryFrame m #[(.int (1 : Int32)), (.int (18 : Int32))] 2 = mkF m 0 #[iv (1 : Int32), iv (18 : Int32)] [] := by first | (simp [entryFrame, mkF, argsToLocals, Value.category]; done) | rfl
set_option maxRecDepth 65536 in
set_option maxHeartbeats 40000000 in
theorem rm_max_1_18 {l : Launch} {Z : State} {a0 : Array Value} {A : Nat → Addr} {KC : Nat → Cell} {IC : Nat → Int32} {VC : Nat → Value} (hw : ∀ d ∈ tables_1, d.before a0 Z = true) (G : own_Ctx Z A KC IC VC)   (h0 : Heap) (O0 : Ext Z.heap h0)  :
    Ok l Z own_m38 jdk_29_method_65_code 2 (some .int) ({ frames := 0, cells := 0, slots := 0, locals := 0 } : Room) #[(.int (1 : Int32)), (.int (18 : Int32))] h0
      (fun v h L => v = some (.int (18 : Int32)) ∧ (h = h0) ∧ (L = [])) := by
  refine Ok.mk pn_java_lang_Math_max__II_I ?_
  intro p e s m below meth c T0 hx hby hml hown hnm hret hlk hZ e0 X0
  refine Go.cast (ef_rm_max_1_18 m ) ?_
  have D := @hb _ _ hby
  have N0 := Fr.nil Z.heap.size
  have K0 : Keep h0 h0 [] := Keep.refl _ _
  refine Go.of (T' := T0) (f' := (mkF m 10 #[iv 1, iv 18] [(.int 18)])) (fun _ k => XS.iloadN X0.here hx rfl (D d17_0) rfl (XS.iloadN X0.here hx rfl (D d17_1) rfl (XS.icmpYes X0.here hx rfl (pc0 := 2) (pc' := 9) rfl (D d17_2) rfl (tlt (by decide : (1 : Int32) < (18 : Int32))).1 (by decide) (by decide) (XS.iloadN X0.here hx rfl (D d17_9) rfl k)))) ?_
  exact Go.retI X0 hx hlk hret (D d17_10) (by decide) (by decide) (by rw [e0]; exact ⟨rfl, rfl, by simp⟩)
theorem d16_0 : decode jdk_48_method_27_code 0 = .ok (.iload_n 0, 1) := by decide +kernel
theorem d16_1 : decode jdk_48_method_27_code 1 = .ok (.iload_n 1, 1) := by decide +kernel
theorem d16_2 : decode jdk_48_method_27_code 2 = .ok (.iload_n 2, 1) := by decide +kernel
theorem d16_3 : decode jdk_48_method_27_code 3 = .ok (.invokestatic 194, 3) := by decide +kernel
theorem pd39 : parseMethodDescriptor "(II)I" = some ⟨[.int, .int], some .int⟩ := by decide +kernel
theorem d16_6 : decode jdk_48_method_27_code 6 = .ok (.iadd, 1) := by decide +kernel
theorem d16_7 : decode jdk_48_method_27_code 7 = .ok (.istore_n 3, 1) := by decide +kernel
theorem d16_8 : decode jdk_48_method_27_code 8 = .ok (.iconst 0, 1) := by decide +kernel
theorem d16_9 : decode jdk_48_method_27_code 9 = .ok (.iload_n 3, 1) := by decide +kernel
theorem d16_10 : decode jdk_48_method_27_code 10 = .ok (.if_icmp .ge 11, 3) := by decide +kernel
theorem d16_13 : decode jdk_48_method_27_code 13 = .ok (.iload_n 3, 1) := by decide +kernel
theorem d16_14 : decode jdk_48_method_27_code 14 = .ok (.ldc 200, 2) := by decide +kernel
theorem d16_16 : decode jdk_48_method_27_code 16 = .ok (.if_icmp .gt 5, 3) := by decide +kernel
theorem d16_19 : decode jdk_48_method_27_code 19 = .ok (.iload_n 3, 1) := by decide +kernel
theorem d16_20 : decode jdk_48_method_27_code 20 = .ok (.ireturn, 1) := by decide +kernel
abbrev own_m40 : MethodName := (⟨"jdk/internal/util/ArraysSupport", "newLength", "(III)I"⟩ : MethodName)
theorem ef_rm_nlen_16_1_18 (m : MethodId)  : entryFrame m #[(.int (16 : Int32)), (.int (1 : Int32)), (.int (18 : Int32))] 4 = mkF m 0 #[iv (16 : Int32), iv (1 : Int32), iv (18 : Int32), .unset] [] := by first | (simp [entryFrame, mkF, argsToLocals, Value.category]; done) | rfl
theorem pn41 : plainFor (⟨"jdk/internal/util/ArraysSupport", "newLength", "(III)I"⟩ : MethodName) = true := by first | exact plainFor_of_name (by first | (simp [plainName, overriddenIn]; done) | decide +kernel) | decide +kernel
set_option maxRecDepth 65536 in
set_option maxHeartbeats 40000000 in
theorem rm_nlen_16_1_18 {l : Launch} {Z : State} {a0 : Array Value} {A : Nat → Addr} {KC : Nat → Cell} {IC : Nat → Int32} {VC : Nat → Value} (hw : ∀ d ∈ tables_1, d.before a0 Z = true) (G : own_Ctx Z A KC IC VC)   (h0 : Heap) (O0 : Ext Z.heap h0)  :
    Ok l Z own_m40 jdk_48_method_27_code 4 (some .int) ({ frames := 1, cells := 0, slots := 0, locals := 14 } : Room) #[(.int (16 : Int32)), (.int (1 : Int32)), (.int (18 : Int32))] h0
      (fun v h L => v = some (.int (34 : Int32)) ∧ (h = h0) ∧ (L = [])) := by
  refine Ok.mk pn41 ?_
  intro p e s m below meth c T0 hx hby hml hown hnm hret hlk hZ e0 X0
  refine Go.cast (ef_rm_nlen_16_1_18 m ) ?_
  have D := @hb _ _ hby
  have N0 := Fr.nil Z.heap.size
  have K0 : Keep h0 h0 [] := Keep.refl _ _
  obtain ⟨T170, v170, L170, X170, q170, st170⟩ := callSt X0 hx hZ (y := own_m38) hown (own_w hw (i := 114) rfl) (own_w hw (i := 115) rfl) (own_w hw (i := 116) rfl) (own_w hw (i := 117) rfl) (by decide) (rm_max_1_18 hw G   h0 O0 ) e0 (W := 1) (by decide) (by decide) (by decide) (by decide) (g := (mkF m 3 #[iv 16, iv 1, iv 18, .unset] [(.int 18), (.int 1), (.int 16)])) rfl (by rw [hml]; rfl) (argsL := [(.int 1), (.int 18)]) (rest := [(.int 16)]) (lenOf pd39 rfl) rfl rfl (Nat.le_of_eq rfl) (D d16_3)
  obtain ⟨rfl, e170, rfl⟩ := q170
  have N170 := Fr.app N0 (Fr.nil _)
  refine Go.of (T' := T170) (f' := (mkF m 20 #[iv 16, iv 1, iv 18, iv 34] [(.int 34)])) (fun _ k => XS.iloadN X0.here hx rfl (D d16_0) rfl (XS.iloadN X0.here hx rfl (D d16_1) rfl (XS.iloadN X0.here hx rfl (D d16_2) rfl (st170 _ (XS.iadd X170.here hx rfl (D d16_6) rfl (XS.istoreN X170.here hx rfl (D d16_7) rfl (l' := #[iv 16, iv 1, iv 18, iv 34]) rfl (XS.iconst X170.here hx rfl (D d16_8) (XS.iloadN X170.here hx rfl (D d16_9) rfl (XS.icmpNo X170.here hx rfl (D d16_10) rfl (tlt (by decide : (0 : Int32) < (34 : Int32))).2.1 (XS.iloadN X170.here hx rfl (D d16_13) rfl (X170.ldcInt hx hown (mvT hZ (own_w hw (i := 118) rfl)) (g := (mkF m 14 #[iv 16, iv 1, iv 18, iv 34] [(.int 34)])) rfl (D d16_14) _ (XS.icmpNo X170.here hx rfl (D d16_16) rfl (flt (by decide : ¬ ((2147483639 : Int32) < (34 : Int32)))).2.2.1 (XS.iloadN X170.here hx rfl (D d16_19) rfl k))))))))))))) ?_
  exact Go.retI X170 hx hlk hret (D d16_20) (by decide) (by decide) (by rw [e170]; exact ⟨rfl, rfl, by simp⟩)
theorem d15_0 : decode jdk_68_method_10_code 0 = .ok (.aload_n 0, 1) := by decide +kernel
theorem d15_1 : decode jdk_68_method_10_code 1 = .ok (.getfield 15, 3) := by decide +kernel
theorem d15_4 : decode jdk_68_method_10_code 4 = .ok (.arraylength, 1) := by decide +kernel
theorem d15_5 : decode jdk_68_method_10_code 5 = .ok (.istore_n 2, 1) := by decide +kernel
theorem d15_6 : decode jdk_68_method_10_code 6 = .ok (.iload_n 1, 1) := by decide +kernel
theorem d15_7 : decode jdk_68_method_10_code 7 = .ok (.aload_n 0, 1) := by decide +kernel
theorem d15_8 : decode jdk_68_method_10_code 8 = .ok (.getfield 22, 3) := by decide +kernel
theorem d15_11 : decode jdk_68_method_10_code 11 = .ok (.ishl, 1) := by decide +kernel
theorem d15_12 : decode jdk_68_method_10_code 12 = .ok (.istore_n 3, 1) := by decide +kernel
theorem d15_13 : decode jdk_68_method_10_code 13 = .ok (.iload_n 3, 1) := by decide +kernel
theorem d15_14 : decode jdk_68_method_10_code 14 = .ok (.iload_n 2, 1) := by decide +kernel
theorem d15_15 : decode jdk_68_method_10_code 15 = .ok (.isub, 1) := by decide +kernel
theorem d15_16 : decode jdk_68_method_10_code 16 = .ok (.istore 4, 2) := by decide +kernel
theorem d15_18 : decode jdk_68_method_10_code 18 = .ok (.iload_n 2, 1) := by decide +kernel
theorem d15_19 : decode jdk_68_method_10_code 19 = .ok (.iload 4, 2) := by decide +kernel
theorem d15_21 : decode jdk_68_method_10_code 21 = .ok (.iload_n 2, 1) := by decide +kernel
theorem d15_22 : decode jdk_68_method_10_code 22 = .ok (.iconst 2, 1) := by decide +kernel
theorem d15_23 : decode jdk_68_method_10_code 23 = .ok (.aload_n 0, 1) := by decide +kernel
theorem d15_24 : decode jdk_68_method_10_code 24 = .ok (.getfield 22, 3) := by decide +kernel
theorem d15_27 : decode jdk_68_method_10_code 27 = .ok (.ishl, 1) := by decide +kernel
theorem d15_28 : decode jdk_68_method_10_code 28 = .ok (.iadd, 1) := by decide +kernel
theorem d15_29 : decode jdk_68_method_10_code 29 = .ok (.invokestatic 114, 3) := by decide +kernel
theorem pd42 : parseMethodDescriptor "(III)I" = some ⟨[.int, .int, .int], some .int⟩ := by decide +kernel
theorem d15_32 : decode jdk_68_method_10_code 32 = .ok (.istore 5, 2) := by decide +kernel
theorem d15_34 : decode jdk_68_method_10_code 34 = .ok (.iload 5, 2) := by decide +kernel
theorem d15_36 : decode jdk_68_method_10_code 36 = .ok (.ldc 39, 2) := by decide +kernel
theorem d15_38 : decode jdk_68_method_10_code 38 = .ok (.if_icmp .ne 13, 3) := by decide +kernel
theorem d15_51 : decode jdk_68_method_10_code 51 = .ok (.iload 5, 2) := by decide +kernel
theorem d15_53 : decode jdk_68_method_10_code 53 = .ok (.aload_n 0, 1) := by decide +kernel
theorem d15_54 : decode jdk_68_method_10_code 54 = .ok (.getfield 22, 3) := by decide +kernel
theorem d15_57 : decode jdk_68_method_10_code 57 = .ok (.ishr, 1) := by decide +kernel
theorem d15_58 : decode jdk_68_method_10_code 58 = .ok (.ireturn, 1) := by decide +kernel
abbrev own_m43 : MethodName := (⟨"java/lang/AbstractStringBuilder", "newCapacity", "(I)I"⟩ : MethodName)
theorem ef_rm_ncap_17_16 (m : MethodId) (ob : Addr) : entryFrame m #[(.ref ob), (.int (17 : Int32))] 6 = mkF m 0 #[rv ob, iv (17 : Int32), .unset, .unset, .unset, .unset] [] := by first | (simp [entryFrame, mkF, argsToLocals, Value.category]; done) | rfl
theorem pn44 : plainFor (⟨"java/lang/AbstractStringBuilder", "newCapacity", "(I)I"⟩ : MethodName) = true := by first | exact plainFor_of_name (by first | (simp [plainName, overriddenIn]; done) | decide +kernel) | decide +kernel
set_option maxRecDepth 65536 in
set_option maxHeartbeats 40000000 in
theorem rm_ncap_17_16 {l : Launch} {Z : State} {a0 : Array Value} {A : Nat → Addr} {KC : Nat → Cell} {IC : Nat → Int32} {VC : Nat → Value} (hw : ∀ d ∈ tables_1, d.before a0 Z = true) (G : own_Ctx Z A KC IC VC) (ob : Addr) (va : Addr) (kv : ClassId) (bs : List Int32) (h0 : Heap) (O0 : Ext Z.heap h0) (prem0 : Exa Z h0 ob "java/lang/StringBuilder") (prem1 : Fld Z h0 ob "java/lang/AbstractStringBuilder" "value" "[B" (.ref va)) (prem2 : Fld Z h0 ob "java/lang/AbstractStringBuilder" "coder" "B" (.int (0 : Int32))) (prem3 : Arv Z h0 va kv .byte (16 : Int32) (bs.map Value.int) (.int (0 : Int32))) :
    Ok l Z own_m43 jdk_68_method_10_code 6 (some .int) ({ frames := 2, cells := 0, slots := 0, locals := 29 } : Room) #[(.ref ob), (.int (17 : Int32))] h0
      (fun v h L => v = some (.int (34 : Int32)) ∧ (h = h0) ∧ (L = [])) := by
  refine Ok.mk pn44 ?_
  intro p e s m below meth c T0 hx hby hml hown hnm hret hlk hZ e0 X0
  refine Go.cast (ef_rm_ncap_17_16 m ob) ?_
  have D := @hb _ _ hby
  have N0 := Fr.nil Z.heap.size
  have K0 : Keep h0 h0 [] := Keep.refl _ _
  obtain ⟨T173, X173, e173, st173⟩ := getF X0 hx hZ hown (host := "") (Or.inl (own_w hw (i := 32) rfl)) Via.refl e0 prem1 (g := (mkF m 1 #[rv ob, iv 17, .unset, .unset, .unset, .unset] [(.ref ob)])) rfl rfl (D d15_1)
  obtain ⟨cl174, Ar174, qk174, S174, Ng174, H174, G174⟩ := id prem3
  obtain ⟨T175, X175, e175, st175⟩ := getF X173 hx hZ hown (host := "") (Or.inl (own_w hw (i := 34) rfl)) Via.refl e173 prem2 (g := (mkF m 8 #[rv ob, iv 17, iv 16, .unset, .unset, .unset] [(.ref ob), (.int 17)])) rfl rfl (D d15_8)
  obtain ⟨T176, X176, e176, st176⟩ := getF X175 hx hZ hown (host := "") (Or.inl (own_w hw (i := 34) rfl)) Via.refl e175 prem2 (g := (mkF m 24 #[rv ob, iv 17, iv 16, iv 17, iv 1, .unset] [(.ref ob), (.int 2), (.int 16), (.int 1), (.int 16)])) rfl rfl (D d15_24)
  obtain ⟨T177, v177, L177, X177, q177, st177⟩ := callSt X176 hx hZ (y := own_m40) hown (own_w hw (i := 110) rfl) (own_w hw (i := 111) rfl) (own_w hw (i := 112) rfl) (own_w hw (i := 113) rfl) (by decide) (rm_nlen_16_1_18 hw G   h0 O0 ) e176 (W := 0) (by decide) (by decide) (by decide) (by decide) (g := (mkF m 29 #[rv ob, iv 17, iv 16, iv 17, iv 1, .unset] [(.int 18), (.int 1), (.int 16)])) rfl (by rw [hml]; rfl) (argsL := [(.int 16), (.int 1), (.int 18)]) (rest := []) (lenOf pd42 rfl) rfl rfl (Nat.le_of_eq rfl) (D d15_29)
  obtain ⟨rfl, e177, rfl⟩ := q177
  have N177 := Fr.app N0 (Fr.nil _)
  refine Go.of (T' := T177) (f' := (mkF m 36 #[rv ob, iv 17, iv 16, iv 17, iv 1, iv 34] [(.int 34)])) (fun _ k => XS.aloadN X0.here hx rfl (D d15_0) rfl rfl (st173 _ (X173.arraylength hx (by rw [e173]; exact Ar174.1) (State.isArrayOf_alike hZ.alike Ar174.2.1) (g := (mkF m 4 #[rv ob, iv 17, .unset, .unset, .unset, .unset] [(.ref va)])) rfl rfl (D d15_4) _ (by rw [len_of S174 Ng174]; exact (XS.istoreN X173.here hx rfl (D d15_5) rfl (l' := #[rv ob, iv 17, iv 16, .unset, .unset, .unset]) rfl (XS.iloadN X173.here hx rfl (D d15_6) rfl (XS.aloadN X173.here hx rfl (D d15_7) rfl rfl (st175 _ (XS.ishl X175.here hx rfl (D d15_11) rfl (XS.istoreN X175.here hx rfl (D d15_12) rfl (l' := #[rv ob, iv 17, iv 16, iv 17, .unset, .unset]) rfl (XS.iloadN X175.here hx rfl (D d15_13) rfl (XS.iloadN X175.here hx rfl (D d15_14) rfl (XS.isub X175.here hx rfl (D d15_15) rfl (XS.istore X175.here hx rfl (D d15_16) rfl (l' := #[rv ob, iv 17, iv 16, iv 17, iv 1, .unset]) rfl (XS.iloadN X175.here hx rfl (D d15_18) rfl (XS.iload X175.here hx rfl (D d15_19) rfl (XS.iloadN X175.here hx rfl (D d15_21) rfl (XS.iconst X175.here hx rfl (D d15_22) (XS.aloadN X175.here hx rfl (D d15_23) rfl rfl (st176 _ (XS.ishl X176.here hx rfl (D d15_27) rfl (XS.iadd X176.here hx rfl (D d15_28) rfl (st177 _ (XS.istore X177.here hx rfl (D d15_32) rfl (l' := #[rv ob, iv 17, iv 16, iv 17, iv 1, iv 34]) rfl (XS.iload X177.here hx rfl (D d15_34) rfl k))))))))))))))))))))))))) ?_
  obtain ⟨T179, X179, e179, st179⟩ := getF X177 hx hZ hown (host := "") (Or.inl (own_w hw (i := 34) rfl)) Via.refl e177 prem2 (g := (mkF m 54 #[rv ob, iv 17, iv 16, iv 17, iv 1, iv 34] [(.ref ob), (.int 34)])) rfl rfl (D d15_54)
  refine Go.of (T' := T179) (f' := (mkF m 58 #[rv ob, iv 17, iv 16, iv 17, iv 1, iv 34] [(.int 34)])) (fun _ k => X177.ldcInt hx hown (mvT hZ (own_w hw (i := 119) rfl)) (g := (mkF m 36 #[rv ob, iv 17, iv 16, iv 17, iv 1, iv 34] [(.int 34)])) rfl (D d15_36) _ (XS.icmpYes X177.here hx rfl (pc0 := 38) (pc' := 51) rfl (D d15_38) rfl (feq (by decide : ¬ ((34 : Int32) = (2147483647 : Int32)))).2 (by decide) (by decide) (XS.iload X177.here hx rfl (D d15_51) rfl (XS.aloadN X177.here hx rfl (D d15_53) rfl rfl (st179 _ (XS.ishr X179.here hx rfl (D d15_57) rfl k)))))) ?_
  exact Go.retI X179 hx hlk hret (D d15_58) (by decide) (by decide) (by rw [e179]; exact ⟨rfl, rfl, by simp⟩)
theorem d19_0 : decode jdk_29_method_69_code 0 = .ok (.iload_n 0, 1) := by decide +kernel
theorem d19_1 : decode jdk_29_method_69_code 1 = .ok (.iload_n 1, 1) := by decide +kernel
theorem d19_2 : decode jdk_29_method_69_code 2 = .ok (.if_icmp .gt 7, 3) := by decide +kernel
theorem d19_5 : decode jdk_29_method_69_code 5 = .ok (.iload_n 0, 1) := by decide +kernel
theorem d19_6 : decode jdk_29_method_69_code 6 = .ok (.goto 4, 3) := by decide +kernel
theorem d19_10 : decode jdk_29_method_69_code 10 = .ok (.ireturn, 1) := by decide +kernel
abbrev own_m45 : MethodName := (⟨"java/lang/Math", "min", "(II)I"⟩ : MethodName)
theorem ef_rm_min_16_34 (m : MethodId)  : entryFrame m #[(.int (16 : Int32)), (.int (34 : Int32))] 2 = mkF m 0 #[iv (16 : Int32), iv (34 : Int32)] [] := by first | (simp [entryFrame, mkF, argsToLocals, Value.category]; done) | rfl
set_option maxRecDepth 65536 in
set_option maxHeartbeats 40000000 in
theorem rm_min_16_34 {l : Launch} {Z : State} {a0 : Array Value} {A : Nat → Addr} {KC : Nat → Cell} {IC : Nat → Int32} {VC : Nat → Value} (hw : ∀ d ∈ tables_1, d.before a0 Z = true) (G : own_Ctx Z A KC IC VC)   (h0 : Heap) (O0 : Ext Z.heap h0)  :
    Ok l Z own_m45 jdk_29_method_69_code 2 (some .int) ({ frames := 0, cells := 0, slots := 0, locals := 0 } : Room) #[(.int (16 : Int32)), (.int (34 : Int32))] h0
      (fun v h L => v = some (.int (16 : Int32)) ∧ (h = h0) ∧ (L = [])) := by
  refine Ok.mk pn_java_lang_Math_min__II_I ?_
  intro p e s m below meth c T0 hx hby hml hown hnm hret hlk hZ e0 X0
  refine Go.cast (ef_rm_min_16_34 m ) ?_
  have D := @hb _ _ hby
  have N0 := Fr.nil Z.heap.size
  have K0 : Keep h0 h0 [] := Keep.refl _ _
  refine Go.of (T' := T0) (f' := (mkF m 10 #[iv 16, iv 34] [(.int 16)])) (fun _ k => XS.iloadN X0.here hx rfl (D d19_0) rfl (XS.iloadN X0.here hx rfl (D d19_1) rfl (XS.icmpNo X0.here hx rfl (D d19_2) rfl (flt (by decide : ¬ ((34 : Int32) < (16 : Int32)))).2.2.1 (XS.iloadN X0.here hx rfl (D d19_5) rfl (XS.goto X0.here hx rfl (pc0 := 6) (pc' := 10) rfl (D d19_6) (by decide) (by decide) k))))) ?_
  exact Go.retI X0 hx hlk hret (D d19_10) (by decide) (by decide) (by rw [e0]; exact ⟨rfl, rfl, by simp⟩)
theorem d18_0 : decode jdk_65_method_121_code 0 = .ok (.iload_n 1, 1) := by decide +kernel
theorem d18_1 : decode jdk_65_method_121_code 1 = .ok (.aload_n 0, 1) := by decide +kernel
theorem d18_2 : decode jdk_65_method_121_code 2 = .ok (.arraylength, 1) := by decide +kernel
theorem d18_3 : decode jdk_65_method_121_code 3 = .ok (.if_icmp .ne 11, 3) := by decide +kernel
theorem d18_14 : decode jdk_65_method_121_code 14 = .ok (.iload_n 1, 1) := by decide +kernel
theorem d18_15 : decode jdk_65_method_121_code 15 = .ok (.newarray .byte, 2) := by decide +kernel
theorem d18_17 : decode jdk_65_method_121_code 17 = .ok (.astore_n 2, 1) := by decide +kernel
theorem d18_18 : decode jdk_65_method_121_code 18 = .ok (.aload_n 0, 1) := by decide +kernel
theorem d18_19 : decode jdk_65_method_121_code 19 = .ok (.iconst 0, 1) := by decide +kernel
theorem d18_20 : decode jdk_65_method_121_code 20 = .ok (.aload_n 2, 1) := by decide +kernel
theorem d18_21 : decode jdk_65_method_121_code 21 = .ok (.iconst 0, 1) := by decide +kernel
theorem d18_22 : decode jdk_65_method_121_code 22 = .ok (.aload_n 0, 1) := by decide +kernel
theorem d18_23 : decode jdk_65_method_121_code 23 = .ok (.arraylength, 1) := by decide +kernel
theorem d18_24 : decode jdk_65_method_121_code 24 = .ok (.iload_n 1, 1) := by decide +kernel
theorem d18_25 : decode jdk_65_method_121_code 25 = .ok (.invokestatic 304, 3) := by decide +kernel
theorem d18_28 : decode jdk_65_method_121_code 28 = .ok (.invokestatic 150, 3) := by decide +kernel
theorem d18_31 : decode jdk_65_method_121_code 31 = .ok (.aload_n 2, 1) := by decide +kernel
theorem d18_32 : decode jdk_65_method_121_code 32 = .ok (.areturn, 1) := by decide +kernel
abbrev own_m46 : MethodName := (⟨"java/util/Arrays", "copyOf", "([BI)[B"⟩ : MethodName)
theorem ef_rm_cof_16_16_34 (m : MethodId) (va : Addr) : entryFrame m #[(.ref va), (.int (34 : Int32))] 3 = mkF m 0 #[rv va, iv (34 : Int32), .unset] [] := by first | (simp [entryFrame, mkF, argsToLocals, Value.category]; done) | rfl
theorem pn47 : plainFor (⟨"java/util/Arrays", "copyOf", "([BI)[B"⟩ : MethodName) = true := by first | exact plainFor_of_name (by first | (simp [plainName, overriddenIn]; done) | decide +kernel) | decide +kernel
set_option maxRecDepth 65536 in
set_option maxHeartbeats 40000000 in
theorem rm_cof_16_16_34 {l : Launch} {Z : State} {a0 : Array Value} {A : Nat → Addr} {KC : Nat → Cell} {IC : Nat → Int32} {VC : Nat → Value} (hw : ∀ d ∈ tables_1, d.before a0 Z = true) (G : own_Ctx Z A KC IC VC) (va : Addr) (kv : ClassId) (bs : List Int32) (h0 : Heap) (O0 : Ext Z.heap h0) (prem0 : bs.length = 16) (prem1 : Arv Z h0 va kv .byte (16 : Int32) (bs.map Value.int) (.int (0 : Int32))) :
    Ok l Z own_m46 jdk_65_method_121_code 3 (some (.array .byte)) ({ frames := 1, cells := 1, slots := 34, locals := 18 } : Room) #[(.ref va), (.int (34 : Int32))] h0
      (fun v h L => ∃ vb : Addr, ∃ kb : ClassId, v = some (.ref vb) ∧ (Fr Z.heap.size L) ∧ (Keep h0 h []) ∧ (h0.size ≤ vb) ∧ (Arv Z h vb kb .byte (34 : Int32) (bs.map Value.int) (.int (0 : Int32))) ∧ (Exa Z h vb "[B")) := by
  refine Ok.mk pn47 ?_
  intro p e s m below meth c T0 hx hby hml hown hnm hret hlk hZ e0 X0
  refine Go.cast (ef_rm_cof_16_16_34 m va) ?_
  have D := @hb _ _ hby
  have N0 := Fr.nil Z.heap.size
  have K0 : Keep h0 h0 [] := Keep.refl _ _
  obtain ⟨cl181, Ar181, qk181, S181, Ng181, H181, G181⟩ := id prem1
  obtain ⟨T183, h183, k183, b183, q183, X183, e183, E183, V183, A183, st183⟩ := newAr X0 hx hZ (own_w hw (i := 6) rfl) e0 (g := (mkF m 15 #[rv va, iv 34, .unset] [(.int 34)])) rfl (D d18_15) rfl (by decide) (cap := 34) (by decide) (by decide) (by decide) (by decide) (ad := "[B") (by decide)
  have O184 := Old0.ext O0 E183
  have K184 := Keep.ext K0 E183
  have g_b183 : Z.heap.size ≤ b183 := q183 ▸ O0.1
  have z_b183 : h0.size ≤ b183 := q183 ▸ K0.1
  have ne_va_b183 : va ≠ b183 := q183 ▸ Nat.ne_of_lt prem1.lt
  have f185 : Arv Z h183 b183 k183 .byte (34 : Int32) [(.int 0), (.int 0), (.int 0), (.int 0), (.int 0), (.int 0), (.int 0), (.int 0), (.int 0), (.int 0), (.int 0), (.int 0), (.int 0), (.int 0), (.int 0), (.int 0), (.int 0), (.int 0), (.int 0), (.int 0), (.int 0), (.int 0), (.int 0), (.int 0), (.int 0), (.int 0), (.int 0), (.int 0), (.int 0), (.int 0), (.int 0), (.int 0), (.int 0), (.int 0)] (.int 0) := Arv.pad V183 (pad_rep [] (.int 0) 34)
  have fz186 : Arv Z h183 b183 k183 .byte (34 : Int32) (([] : List Int32).map Value.int) (.int 0) := Arv.pad f185 (fun i => (pad_rep [] (.int 0) 34 i).symm)
  have f188 : Arv Z h183 va kv .byte (16 : Int32) (bs.map Value.int) (.int 0) := (Arv.ext prem1 E183)
  obtain ⟨cl187, Ar187, qk187, S187, Ng187, H187, G187⟩ := id f188
  obtain ⟨T189, v189, L189, X189, q189, st189⟩ := callSt X183 hx hZ (y := own_m45) hown (own_w hw (i := 124) rfl) (own_w hw (i := 125) rfl) (own_w hw (i := 116) rfl) (own_w hw (i := 126) rfl) (by decide) (rm_min_16_34 hw G   h183 O184 ) e183 (W := 4) (by decide) (by decide) (by decide) (by decide) (g := (mkF m 25 #[rv va, iv 34, rv b183] [(.int 34), (.int 16), (.int 0), (.ref b183), (.int 0), (.ref va)])) rfl (by rw [hml]; rfl) (argsL := [(.int 16), (.int 34)]) (rest := [(.int 0), (.ref b183), (.int 0), (.ref va)]) (lenOf pd39 rfl) rfl rfl (Nat.le_of_eq rfl) (D d18_25)
  obtain ⟨rfl, e189, rfl⟩ := q189
  have N189 := Fr.app N0 (Fr.nil _)
  obtain ⟨T190, h190, L190, X190, e190, N190, Kq190, V190, st190⟩ := own_cpG X189 hx hZ hown (own_w hw (i := 127) rfl) (own_w hw (i := 86) rfl) (own_w hw (i := 84) rfl) (own_w hw (i := 85) rfl) e189 f188 fz186 (dp := (0 : Int32)) (nn := (16 : Int32)) (by decide) (by decide) (by decide) (by rw [prem0]; decide) (by decide) (by decide) N189 g_b183 (g := (mkF m 28 #[rv va, iv 34, rv b183] [(.int 16), (.int 0), (.ref b183), (.int 0), (.ref va)])) rfl (by rw [hml]; rfl) rfl (D d18_28) (by decide) (W := 0) (Nat.le_of_eq rfl) (by decide)
  have O191 := Old0.keep O184 Kq190 (allS g_b183 all0)
  have K191 := Keep.trans K184 Kq190 (allS (Or.inr z_b183) all0)
  have f192 : Exa Z h190 b183 "[B" := (Exa.keep A183 Kq190)
  refine Go.of (T' := T190) (f' := (mkF m 32 #[rv va, iv 34, rv b183] [(.ref b183)])) (fun _ k => XS.iloadN X0.here hx rfl (D d18_0) rfl (XS.aloadN X0.here hx rfl (D d18_1) rfl rfl (X0.arraylength hx (by rw [e0]; exact Ar181.1) (State.isArrayOf_alike hZ.alike Ar181.2.1) (g := (mkF m 2 #[rv va, iv 34, .unset] [(.ref va), (.int 34)])) rfl rfl (D d18_2) _ (by rw [len_of S181 Ng181]; exact (XS.icmpYes X0.here hx rfl (pc0 := 3) (pc' := 14) rfl (D d18_3) rfl (feq (by decide : ¬ ((34 : Int32) = (16 : Int32)))).2 (by decide) (by decide) (XS.iloadN X0.here hx rfl (D d18_14) rfl (st183 _ (XS.astoreN X183.here hx rfl (D d18_17) rfl rfl (l' := #[rv va, iv 34, rv b183]) rfl (XS.aloadN X183.here hx rfl (D d18_18) rfl rfl (XS.iconst X183.here hx rfl (D d18_19) (XS.aloadN X183.here hx rfl (D d18_20) rfl rfl (XS.iconst X183.here hx rfl (D d18_21) (XS.aloadN X183.here hx rfl (D d18_22) rfl rfl (X183.arraylength hx (by rw [e183]; exact Ar187.1) (State.isArrayOf_alike hZ.alike Ar187.2.1) (g := (mkF m 23 #[rv va, iv 34, rv b183] [(.ref va), (.int 0), (.ref b183), (.int 0), (.ref va)])) rfl rfl (D d18_23) _ (by rw [len_of S187 Ng187]; exact (XS.iloadN X183.here hx rfl (D d18_24) rfl (st189 _ (st190 _ (XS.aloadN X190.here hx rfl (D d18_31) rfl rfl k))))))))))))))))))) ?_
  exact Go.retA X190 hx hlk hret rfl rfl (D d18_32) (by decide) (by decide) (by rw [e190]; exact ⟨b183, k183, rfl, N190, K191, z_b183, V190, f192⟩)
theorem d8_17 : decode jdk_68_method_9_code 17 = .ok (.aload_n 0, 1) := by decide +kernel
theorem d8_18 : decode jdk_68_method_9_code 18 = .ok (.aload_n 0, 1) := by decide +kernel
theorem d8_19 : decode jdk_68_method_9_code 19 = .ok (.getfield 15, 3) := by decide +kernel
theorem d8_22 : decode jdk_68_method_9_code 22 = .ok (.aload_n 0, 1) := by decide +kernel
theorem d8_23 : decode jdk_68_method_9_code 23 = .ok (.iload_n 1, 1) := by decide +kernel
theorem d8_24 : decode jdk_68_method_9_code 24 = .ok (.invokevirtual 104, 3) := by decide +kernel
theorem pd48 : parseMethodDescriptor "(I)I" = some ⟨[.int], some .int⟩ := by decide +kernel
theorem d8_27 : decode jdk_68_method_9_code 27 = .ok (.aload_n 0, 1) := by decide +kernel
theorem d8_28 : decode jdk_68_method_9_code 28 = .ok (.getfield 22, 3) := by decide +kernel
theorem d8_31 : decode jdk_68_method_9_code 31 = .ok (.ishl, 1) := by decide +kernel
theorem d8_32 : decode jdk_68_method_9_code 32 = .ok (.invokestatic 108, 3) := by decide +kernel
theorem pd49 : parseMethodDescriptor "([BI)[B" = some ⟨[(.array .byte), .int], some (.array .byte)⟩ := by decide +kernel
theorem d8_35 : decode jdk_68_method_9_code 35 = .ok (.putfield 15, 3) := by decide +kernel
theorem ef_rm_ecg_16_17_16 (m : MethodId) (ob : Addr) : entryFrame m #[(.ref ob), (.int (17 : Int32))] 3 = mkF m 0 #[rv ob, iv (17 : Int32), .unset] [] := by first | (simp [entryFrame, mkF, argsToLocals, Value.category]; done) | rfl
set_option maxRecDepth 65536 in
set_option maxHeartbeats 40000000 in
theorem rm_ecg_16_17_16 {l : Launch} {Z : State} {a0 : Array Value} {A : Nat → Addr} {KC : Nat → Cell} {IC : Nat → Int32} {VC : Nat → Value} (hw : ∀ d ∈ tables_1, d.before a0 Z = true) (G : own_Ctx Z A KC IC VC) (ob : Addr) (va : Addr) (kv : ClassId) (bs : List Int32) (h0 : Heap) (O0 : Ext Z.heap h0) (prem0 : bs.length = 16) (prem1 : Exa Z h0 ob "java/lang/StringBuilder") (prem2 : Fld Z h0 ob "java/lang/AbstractStringBuilder" "value" "[B" (.ref va)) (prem3 : Fld Z h0 ob "java/lang/AbstractStringBuilder" "coder" "B" (.int (0 : Int32))) (prem4 : Arv Z h0 va kv .byte (16 : Int32) (bs.map Value.int) (.int (0 : Int32))) (prem5 : Z.heap.size ≤ ob) (prem6 : Fld Z h0 ob "java/lang/AbstractStringBuilder" "count" "I" (.int (16 : Int32))) :
    Ok l Z own_m23 jdk_68_method_9_code 3 none ({ frames := 3, cells := 1, slots := 34, locals := 48 } : Room) #[(.ref ob), (.int (17 : Int32))] h0
      (fun v h L => ∃ vb : Addr, ∃ kb : ClassId, v = none ∧ (Fr Z.heap.size L) ∧ (Keep h0 h [ob]) ∧ (h0.size ≤ vb) ∧ (Fld Z h ob "java/lang/AbstractStringBuilder" "value" "[B" (.ref vb)) ∧ (Fld Z h ob "java/lang/AbstractStringBuilder" "coder" "B" (.int (0 : Int32))) ∧ (Fld Z h ob "java/lang/AbstractStringBuilder" "count" "I" (.int (16 : Int32))) ∧ (Arv Z h vb kb .byte (34 : Int32) (bs.map Value.int) (.int (0 : Int32)))) := by
  refine Ok.mk pn24 ?_
  intro p e s m below meth c T0 hx hby hml hown hnm hret hlk hZ e0 X0
  refine Go.cast (ef_rm_ecg_16_17_16 m ob) ?_
  have D := @hb _ _ hby
  have N0 := Fr.nil Z.heap.size
  have K0 : Keep h0 h0 [ob] := Keep.refl _ _
  obtain ⟨T193, X193, e193, st193⟩ := getF X0 hx hZ hown (host := "") (Or.inl (own_w hw (i := 32) rfl)) Via.refl e0 prem2 (g := (mkF m 1 #[rv ob, iv 17, .unset] [(.ref ob)])) rfl rfl (D d8_1)
  obtain ⟨cl194, Ar194, qk194, S194, Ng194, H194, G194⟩ := id prem4
  obtain ⟨T195, X195, e195, st195⟩ := getF X193 hx hZ hown (host := "") (Or.inl (own_w hw (i := 34) rfl)) Via.refl e193 prem3 (g := (mkF m 6 #[rv ob, iv 17, .unset] [(.ref ob), (.int 16)])) rfl rfl (D d8_6)
  obtain ⟨T197, X197, e197, st197⟩ := getF X195 hx hZ hown (host := "") (Or.inl (own_w hw (i := 32) rfl)) Via.refl e195 prem2 (g := (mkF m 19 #[rv ob, iv 17, iv 16] [(.ref ob), (.ref ob)])) rfl rfl (D d8_19)
  obtain ⟨T198, v198, L198, X198, q198, st198⟩ := callPr X197 hx hZ (y := own_m43) hown (own_w hw (i := 105) rfl) (own_w hw (i := 106) rfl) (own_selfsel (own_w hw (i := 106) rfl) (own_w hw (i := 108) rfl) (own_w hw (i := 107) rfl) (by decide)) (own_w hw (i := 107) rfl) (own_w hw (i := 26) rfl) (own_w hw (i := 109) rfl) (by decide) (rm_ncap_17_16 hw G ob va kv bs h0 O0 prem1 prem2 prem3 prem4) e197 (W := 2) (by decide) (by decide) (by decide) (by decide) prem1 (g := (mkF m 24 #[rv ob, iv 17, iv 16] [(.int 17), (.ref ob), (.ref va), (.ref ob)])) rfl (by rw [hml]; rfl) (a := ob) (argsL := [(.int 17)]) (rest := [(.ref va), (.ref ob)]) (lenOf pd48 rfl) rfl rfl (Nat.le_of_eq rfl) (D d8_24)
  obtain ⟨rfl, e198, rfl⟩ := q198
  have N198 := Fr.app N0 (Fr.nil _)
  obtain ⟨T199, X199, e199, st199⟩ := getF X198 hx hZ hown (host := "") (Or.inl (own_w hw (i := 34) rfl)) Via.refl e198 prem3 (g := (mkF m 28 #[rv ob, iv 17, iv 16] [(.ref ob), (.int 34), (.ref va), (.ref ob)])) rfl rfl (D d8_28)
  obtain ⟨T200, v200, L200, X200, q200, st200⟩ := callSt X199 hx hZ (y := own_m46) hown (own_w hw (i := 120) rfl) (own_w hw (i := 121) rfl) (own_w hw (i := 122) rfl) (own_w hw (i := 123) rfl) (by decide) (rm_cof_16_16_34 hw G va kv bs h0 O0 (prem0) prem4) e199 (W := 1) (by decide) (by decide) (by decide) (by decide) (g := (mkF m 32 #[rv ob, iv 17, iv 16] [(.int 34), (.ref va), (.ref ob)])) rfl (by rw [hml]; rfl) (argsL := [(.ref va), (.int 34)]) (rest := [(.ref ob)]) (lenOf pd49 rfl) rfl rfl (Nat.le_of_eq rfl) (D d8_32)
  obtain ⟨vb_200, kb_200, rfl, N200q, K200q, p200_0, p200_1, p200_2⟩ := q200
  have N200 := Fr.app N198 N200q
  have O201 := Old0.keep O0 K200q all0
  have K201 := Keep.trans K0 K200q all0
  have z_vb_200 : h0.size ≤ vb_200 := Nat.le_trans K0.1 p200_0
  have g_vb_200 : Z.heap.size ≤ vb_200 := Nat.le_trans O0.1 p200_0
  have ne_ob_vb_200 : ob ≠ vb_200 := Nat.ne_of_lt (Nat.lt_of_lt_of_le prem1.lt p200_0)
  have ne_va_vb_200 : va ≠ vb_200 := Nat.ne_of_lt (Nat.lt_of_lt_of_le prem4.lt p200_0)
  have f203 : Exa Z T200.heap ob "java/lang/StringBuilder" := (Exa.keep prem1 K200q)
  have f204 : Fld Z T200.heap ob "java/lang/AbstractStringBuilder" "value" "[B" (.ref va) := (Fld.keep prem2 K200q nin0)
  obtain ⟨T202, h202, X202, e202, W202, st202⟩ := putF X200 hx hZ hown (host := "") (Or.inl (own_w hw (i := 32) rfl)) Via.refl rfl f204 f203 (Or.inl (own_w hw (i := 33) rfl)) (own_w hw (i := 17) rfl) (ty := (.array .byte)) (by decide) rfl rfl (g := (mkF m 35 #[rv ob, iv 17, iv 16] [(.ref vb_200), (.ref ob)])) rfl rfl (D d8_35)
  have O205 := Old0.wr O201 W202 prem5
  have K205 := Keep.wr K201 W202 (Or.inl (List.mem_of_getElem? (i := 0) rfl))
  have N202 := Fr.snoc X202 N200 prem5
  have f202 : Fld Z h202 ob "java/lang/AbstractStringBuilder" "value" "[B" (.ref vb_200) := Fld.same W202 f204
  have f206 : Fld Z h202 ob "java/lang/AbstractStringBuilder" "coder" "B" (.int 0) := (Fld.other W202 (Fld.keep prem3 K200q nin0) (Or.inr (slot_ne (Or.inl (own_w hw (i := 35) rfl)) (Or.inl (own_w hw (i := 33) rfl)) (by decide) (t := .byte) (t' := (.array .byte)) (by decide) (by decide))))
  have f207 : Fld Z h202 ob "java/lang/AbstractStringBuilder" "count" "I" (.int 16) := (Fld.other W202 (Fld.keep prem6 K200q nin0) (Or.inr (slot_ne (Or.inl (own_w hw (i := 61) rfl)) (Or.inl (own_w hw (i := 33) rfl)) (by decide) (t := .int) (t' := (.array .byte)) (by decide) (by decide))))
  have f208 : Arv Z h202 vb_200 kb_200 .byte (34 : Int32) (bs.map Value.int) (.int 0) := (Arv.other p200_1 W202 (Ne.symm ne_ob_vb_200))
  refine Go.of (T' := T202) (f' := (mkF m 38 #[rv ob, iv 17, iv 16] [])) (fun _ k => XS.aloadN X0.here hx rfl (D d8_0) rfl rfl (st193 _ (X193.arraylength hx (by rw [e193]; exact Ar194.1) (State.isArrayOf_alike hZ.alike Ar194.2.1) (g := (mkF m 4 #[rv ob, iv 17, .unset] [(.ref va)])) rfl rfl (D d8_4) _ (by rw [len_of S194 Ng194]; exact (XS.aloadN X193.here hx rfl (D d8_5) rfl rfl (st195 _ (XS.ishr X195.here hx rfl (D d8_9) rfl (XS.istoreN X195.here hx rfl (D d8_10) rfl (l' := #[rv ob, iv 17, iv 16]) rfl (XS.iloadN X195.here hx rfl (D d8_11) rfl (XS.iloadN X195.here hx rfl (D d8_12) rfl (XS.isub X195.here hx rfl (D d8_13) rfl (XS.ifNo X195.here hx rfl (D d8_14) rfl ((if0 _ _).trans (tlt (by decide : (0 : Int32) < (1 : Int32))).2.2.2) (XS.aloadN X195.here hx rfl (D d8_17) rfl rfl (XS.aloadN X195.here hx rfl (D d8_18) rfl rfl (st197 _ (XS.aloadN X197.here hx rfl (D d8_22) rfl rfl (XS.iloadN X197.here hx rfl (D d8_23) rfl (st198 _ (XS.aloadN X198.here hx rfl (D d8_27) rfl rfl (st199 _ (XS.ishl X199.here hx rfl (D d8_31) rfl (st200 _ (st202 _ k))))))))))))))))))))))) ?_
  exact Go.retV X202 hx hlk hret (D d8_38) (by decide) (by decide) (by rw [e202]; exact ⟨vb_200, kb_200, rfl, N202, K205, z_vb_200, f202, f206, f207, f208⟩)
theorem d21_0 : decode jdk_33_method_12_code 0 = .ok (.iload_n 1, 1) := by decide +kernel
theorem d21_1 : decode jdk_33_method_12_code 1 = .ok (.istore 5, 2) := by decide +kernel
theorem d21_3 : decode jdk_33_method_12_code 3 = .ok (.iload_n 0, 1) := by decide +kernel
theorem d21_4 : decode jdk_33_method_12_code 4 = .ok (.ifCond .ge 7, 3) := by decide +kernel
theorem d21_11 : decode jdk_33_method_12_code 11 = .ok (.iconst 0, 1) := by decide +kernel
theorem d21_12 : decode jdk_33_method_12_code 12 = .ok (.istore 6, 2) := by decide +kernel
theorem d21_14 : decode jdk_33_method_12_code 14 = .ok (.iload 6, 2) := by decide +kernel
theorem d21_16 : decode jdk_33_method_12_code 16 = .ok (.ifCond .ne 6, 3) := by decide +kernel
theorem d21_19 : decode jdk_33_method_12_code 19 = .ok (.iload_n 0, 1) := by decide +kernel
theorem d21_20 : decode jdk_33_method_12_code 20 = .ok (.ineg, 1) := by decide +kernel
theorem d21_21 : decode jdk_33_method_12_code 21 = .ok (.istore_n 0, 1) := by decide +kernel
theorem d21_22 : decode jdk_33_method_12_code 22 = .ok (.iload_n 0, 1) := by decide +kernel
theorem d21_23 : decode jdk_33_method_12_code 23 = .ok (.bipush (-100), 2) := by decide +kernel
theorem d21_25 : decode jdk_33_method_12_code 25 = .ok (.if_icmp .gt 47, 3) := by decide +kernel
theorem d21_72 : decode jdk_33_method_12_code 72 = .ok (.aload_n 2, 1) := by decide +kernel
theorem d21_73 : decode jdk_33_method_12_code 73 = .ok (.iinc 5 (-1), 3) := by decide +kernel
theorem d21_76 : decode jdk_33_method_12_code 76 = .ok (.iload 5, 2) := by decide +kernel
theorem d21_78 : decode jdk_33_method_12_code 78 = .ok (.getstatic 83, 3) := by decide +kernel
theorem d21_81 : decode jdk_33_method_12_code 81 = .ok (.iload_n 0, 1) := by decide +kernel
theorem d21_82 : decode jdk_33_method_12_code 82 = .ok (.ineg, 1) := by decide +kernel
theorem d21_83 : decode jdk_33_method_12_code 83 = .ok (.baload, 1) := by decide +kernel
theorem d21_84 : decode jdk_33_method_12_code 84 = .ok (.bastore, 1) := by decide +kernel
theorem d21_85 : decode jdk_33_method_12_code 85 = .ok (.iload_n 0, 1) := by decide +kernel
theorem d21_86 : decode jdk_33_method_12_code 86 = .ok (.bipush (-9), 2) := by decide +kernel
theorem d21_88 : decode jdk_33_method_12_code 88 = .ok (.if_icmp .ge 16, 3) := by decide +kernel
theorem d21_104 : decode jdk_33_method_12_code 104 = .ok (.iload 6, 2) := by decide +kernel
theorem d21_106 : decode jdk_33_method_12_code 106 = .ok (.ifCond .eq 12, 3) := by decide +kernel
theorem d21_118 : decode jdk_33_method_12_code 118 = .ok (.iload 5, 2) := by decide +kernel
theorem d21_120 : decode jdk_33_method_12_code 120 = .ok (.ireturn, 1) := by decide +kernel
abbrev own_m50 : MethodName := (⟨"java/lang/Integer", "getChars", "(II[B)I"⟩ : MethodName)
theorem ef_rm_gch_3_16_34 (m : MethodId) (va : Addr) : entryFrame m #[(.int (3 : Int32)), (.int (17 : Int32)), (.ref va)] 7 = mkF m 0 #[iv (3 : Int32), iv (17 : Int32), rv va, .unset, .unset, .unset, .unset] [] := by first | (simp [entryFrame, mkF, argsToLocals, Value.category]; done) | rfl
theorem pn51 : plainFor (⟨"java/lang/Integer", "getChars", "(II[B)I"⟩ : MethodName) = true := by first | exact plainFor_of_name (by first | (simp [plainName, overriddenIn]; done) | decide +kernel) | decide +kernel
set_option maxRecDepth 65536 in
set_option maxHeartbeats 40000000 in
theorem rm_gch_3_16_34 {l : Launch} {Z : State} {a0 : Array Value} {A : Nat → Addr} {KC : Nat → Cell} {IC : Nat → Int32} {VC : Nat → Value} (hw : ∀ d ∈ tables_1, d.before a0 Z = true) (G : own_Ctx Z A KC IC VC) (va : Addr) (kv : ClassId) (bs : List Int32) (h0 : Heap) (O0 : Ext Z.heap h0) (prem0 : bs.length = 16) (prem1 : Arv Z h0 va kv .byte (34 : Int32) (bs.map Value.int) (.int (0 : Int32))) (prem2 : Z.heap.size ≤ va) :
    Ok l Z own_m50 jdk_33_method_12_code 7 (some .int) ({ frames := 0, cells := 0, slots := 0, locals := 0 } : Room) #[(.int (3 : Int32)), (.int (17 : Int32)), (.ref va)] h0
      (fun v h L => v = some (.int (16 : Int32)) ∧ (Fr Z.heap.size L) ∧ (Keep h0 h [va]) ∧ (Arv Z h va kv .byte (34 : Int32) ((bs ++ [(51 : Int32)]).map Value.int) (.int (0 : Int32)))) := by
  refine Ok.mk pn51 ?_
  intro p e s m below meth c T0 hx hby hml hown hnm hret hlk hZ e0 X0
  refine Go.cast (ef_rm_gch_3_16_34 m va) ?_
  obtain ⟨-, -, -, -, -, -, -, -, -, -, -, -, -, -, -, -, -, -, -, -, S_DigitOnes, -, -, -, -, -, AD_s_DigitOnes, ZD_s_DigitOnes, GD_s_DigitOnes_3, -⟩ := id G
  have D := @hb _ _ hby
  have N0 := Fr.nil Z.heap.size
  have K0 : Keep h0 h0 [va] := Keep.refl _ _
  have fp : Arv Z h0 va kv .byte (34 : Int32) ((bs ++ [(0 : Int32)]).map Value.int) (.int 0) := Arv.pad prem1 (own_padZ bs 1)
  obtain ⟨T212, X212, e212, st212⟩ := getS2 X0 hx hZ hown (host := "") (Or.inl (own_w hw (i := 136) rfl)) Via.refl e0 (Sta.ext O0 S_DigitOnes) (g := (mkF m 78 #[iv (-3 : Int32), iv 17, rv va, .unset, .unset, iv 16, iv 0] [(.int 16), (.ref va)])) rfl (D d21_78)
  have A213 := Arr.ext O0 AD_s_DigitOnes
  have hin213 : ¬ ((3 : Int32) < 0 ∨ ((KC 2)).slots.size ≤ ((3 : Int32)).toNatClampNeg) := by rw [ZD_s_DigitOnes]; decide
  obtain ⟨cl214, Ar214, qk214, S214, Ng214, H214, G214⟩ := id fp
  obtain ⟨T214, h214, X214, e214, W214, st214⟩ := stB X212 hx hZ e212 Ar214 (j := (16 : Int32)) (inb_of S214 ⟨by decide, by decide⟩) (g := (mkF m 84 #[iv (-3 : Int32), iv 17, rv va, .unset, .unset, iv 16, iv 0] [(.int 51), (.int 16), (.ref va)])) rfl rfl (D d21_84)
  have O215 := Old0.wr O0 W214 prem2
  have K215 := Keep.wr K0 W214 (Or.inl (List.mem_of_getElem? (i := 0) rfl))
  have f214 : Arv Z h214 va kv .byte (34 : Int32) (((bs ++ [(0 : Int32)]).map Value.int).set 16 (.int 51)) (.int 0) := Arv.set Ar214 qk214 S214 Ng214 H214 G214 (v := (.int 51)) (by decide) W214 16 rfl (by simp [prem0])
  have N214 := Fr.snoc X214 N0 prem2
  refine Go.of (T' := T214) (f' := (mkF m 88 #[iv (-3 : Int32), iv 17, rv va, .unset, .unset, iv 16, iv 0] [(.int (-9 : Int32)), (.int (-3 : Int32))])) (fun _ k => XS.iloadN X0.here hx rfl (D d21_0) rfl (XS.istore X0.here hx rfl (D d21_1) rfl (l' := #[iv 3, iv 17, rv va, .unset, .unset, iv 17, .unset]) rfl (XS.iloadN X0.here hx rfl (D d21_3) rfl (XS.ifYes X0.here hx rfl (pc0 := 4) (pc' := 11) rfl (D d21_4) rfl ((if0 _ _).trans (flt (by decide : ¬ ((3 : Int32) < (0 : Int32)))).2.1) (by decide) (by decide) (XS.iconst X0.here hx rfl (D d21_11) (XS.istore X0.here hx rfl (D d21_12) rfl (l' := #[iv 3, iv 17, rv va, .unset, .unset, iv 17, iv 0]) rfl (XS.iload X0.here hx rfl (D d21_14) rfl (XS.ifNo X0.here hx rfl (D d21_16) rfl ((if0 _ _).trans (teq (by decide : (0 : Int32) = (0 : Int32))).2) (XS.iloadN X0.here hx rfl (D d21_19) rfl (XS.ineg X0.here hx rfl (D d21_20) rfl (XS.istoreN X0.here hx rfl (D d21_21) rfl (l' := #[iv (-3 : Int32), iv 17, rv va, .unset, .unset, iv 17, iv 0]) rfl (XS.iloadN X0.here hx rfl (D d21_22) rfl (XS.bipush X0.here hx rfl (D d21_23) (XS.icmpYes X0.here hx rfl (pc0 := 25) (pc' := 72) rfl (D d21_25) rfl (tlt (by decide : (-100 : Int32) < (-3 : Int32))).2.2.1 (by decide) (by decide) (XS.aloadN X0.here hx rfl (D d21_72) rfl rfl (XS.iinc X0.here hx rfl (D d21_73) rfl (l' := #[iv (-3 : Int32), iv 17, rv va, .unset, .unset, iv 16, iv 0]) rfl (XS.iload X0.here hx rfl (D d21_76) rfl (st212 _ (XS.iloadN X212.here hx rfl (D d21_81) rfl (XS.ineg X212.here hx rfl (D d21_82) rfl (X212.baloadBytes hx (j := (3 : Int32)) (v := (.int 51)) (by rw [e212]; exact A213.1) (State.isArrayOf_alike hZ.alike A213.2.1) A213.2.2 hin213 GD_s_DigitOnes_3 (g := (mkF m 83 #[iv (-3 : Int32), iv 17, rv va, .unset, .unset, iv 16, iv 0] [(.int 3), (.ref (A 6)), (.int 16), (.ref va)])) rfl rfl (D d21_83) _ (st214 _ (XS.iloadN X214.here hx rfl (D d21_85) rfl (XS.bipush X214.here hx rfl (D d21_86) k)))))))))))))))))))))))) ?_
  have fe217 : Arv Z h214 va kv .byte (34 : Int32) ((bs ++ [(51 : Int32)]).map Value.int) (.int 0) := own_set1 bs 16 prem0 (51 : Int32) ▸ f214
  refine Go.of (T' := T214) (f' := (mkF m 120 #[iv (-3 : Int32), iv 17, rv va, .unset, .unset, iv 16, iv 0] [(.int 16)])) (fun _ k => XS.icmpYes X214.here hx rfl (pc0 := 88) (pc' := 104) rfl (D d21_88) rfl (flt (by decide : ¬ ((-3 : Int32) < (-9 : Int32)))).2.1 (by decide) (by decide) (XS.iload X214.here hx rfl (D d21_104) rfl (XS.ifYes X214.here hx rfl (pc0 := 106) (pc' := 118) rfl (D d21_106) rfl ((if0 _ _).trans (teq (by decide : (0 : Int32) = (0 : Int32))).1) (by decide) (by decide) (XS.iload X214.here hx rfl (D d21_118) rfl k)))) ?_
  exact Go.retI X214 hx hlk hret (D d21_120) (by decide) (by decide) (by rw [e214]; exact ⟨rfl, N214, K215, fe217⟩)
theorem d13_0 : decode jdk_68_method_32_code 0 = .ok (.aload_n 0, 1) := by decide +kernel
theorem d13_1 : decode jdk_68_method_32_code 1 = .ok (.getfield 79, 3) := by decide +kernel
theorem d13_4 : decode jdk_68_method_32_code 4 = .ok (.istore_n 2, 1) := by decide +kernel
theorem d13_5 : decode jdk_68_method_32_code 5 = .ok (.iload_n 2, 1) := by decide +kernel
theorem d13_6 : decode jdk_68_method_32_code 6 = .ok (.iload_n 1, 1) := by decide +kernel
theorem d13_7 : decode jdk_68_method_32_code 7 = .ok (.invokestatic 245, 3) := by decide +kernel
theorem d13_10 : decode jdk_68_method_32_code 10 = .ok (.iadd, 1) := by decide +kernel
theorem d13_11 : decode jdk_68_method_32_code 11 = .ok (.istore_n 3, 1) := by decide +kernel
theorem d13_12 : decode jdk_68_method_32_code 12 = .ok (.aload_n 0, 1) := by decide +kernel
theorem d13_13 : decode jdk_68_method_32_code 13 = .ok (.iload_n 3, 1) := by decide +kernel
theorem d13_14 : decode jdk_68_method_32_code 14 = .ok (.invokevirtual 100, 3) := by decide +kernel
theorem d13_17 : decode jdk_68_method_32_code 17 = .ok (.aload_n 0, 1) := by decide +kernel
theorem d13_18 : decode jdk_68_method_32_code 18 = .ok (.invokevirtual 83, 3) := by decide +kernel
theorem pd52 : parseMethodDescriptor "()Z" = some ⟨[], some .boolean⟩ := by decide +kernel
theorem d13_21 : decode jdk_68_method_32_code 21 = .ok (.ifCond .eq 16, 3) := by decide +kernel
theorem d13_24 : decode jdk_68_method_32_code 24 = .ok (.iload_n 1, 1) := by decide +kernel
theorem d13_25 : decode jdk_68_method_32_code 25 = .ok (.iload_n 3, 1) := by decide +kernel
theorem d13_26 : decode jdk_68_method_32_code 26 = .ok (.aload_n 0, 1) := by decide +kernel
theorem d13_27 : decode jdk_68_method_32_code 27 = .ok (.getfield 15, 3) := by decide +kernel
theorem d13_30 : decode jdk_68_method_32_code 30 = .ok (.invokestatic 248, 3) := by decide +kernel
theorem pd53 : parseMethodDescriptor "(II[B)I" = some ⟨[.int, .int, (.array .byte)], some .int⟩ := by decide +kernel
theorem d13_33 : decode jdk_68_method_32_code 33 = .ok (.pop, 1) := by decide +kernel
theorem d13_34 : decode jdk_68_method_32_code 34 = .ok (.goto 14, 3) := by decide +kernel
theorem d13_48 : decode jdk_68_method_32_code 48 = .ok (.aload_n 0, 1) := by decide +kernel
theorem d13_49 : decode jdk_68_method_32_code 49 = .ok (.iload_n 3, 1) := by decide +kernel
theorem d13_50 : decode jdk_68_method_32_code 50 = .ok (.putfield 79, 3) := by decide +kernel
theorem d13_53 : decode jdk_68_method_32_code 53 = .ok (.aload_n 0, 1) := by decide +kernel
theorem d13_54 : decode jdk_68_method_32_code 54 = .ok (.areturn, 1) := by decide +kernel
abbrev own_m54 : MethodName := (⟨"java/lang/AbstractStringBuilder", "append", "(I)Ljava/lang/AbstractStringBuilder;"⟩ : MethodName)
theorem ef_rm_abi_3_16_16 (m : MethodId) (ob : Addr) : entryFrame m #[(.ref ob), (.int (3 : Int32))] 4 = mkF m 0 #[rv ob, iv (3 : Int32), .unset, .unset] [] := by first | (simp [entryFrame, mkF, argsToLocals, Value.category]; done) | rfl
theorem pn55 : plainFor (⟨"java/lang/AbstractStringBuilder", "append", "(I)Ljava/lang/AbstractStringBuilder;"⟩ : MethodName) = true := by first | exact plainFor_of_name (by first | (simp [plainName, overriddenIn]; done) | decide +kernel) | decide +kernel
set_option maxRecDepth 65536 in
set_option maxHeartbeats 40000000 in
theorem rm_abi_3_16_16 {l : Launch} {Z : State} {a0 : Array Value} {A : Nat → Addr} {KC : Nat → Cell} {IC : Nat → Int32} {VC : Nat → Value} (hw : ∀ d ∈ tables_1, d.before a0 Z = true) (G : own_Ctx Z A KC IC VC) (ob : Addr) (va : Addr) (kv : ClassId) (bs : List Int32) (h0 : Heap) (O0 : Ext Z.heap h0) (prem0 : bs.length = 16) (prem1 : Exa Z h0 ob "java/lang/StringBuilder") (prem2 : Fld Z h0 ob "java/lang/AbstractStringBuilder" "value" "[B" (.ref va)) (prem3 : Fld Z h0 ob "java/lang/AbstractStringBuilder" "coder" "B" (.int (0 : Int32))) (prem4 : Fld Z h0 ob "java/lang/AbstractStringBuilder" "count" "I" (.int (16 : Int32))) (prem5 : Arv Z h0 va kv .byte (16 : Int32) (bs.map Value.int) (.int (0 : Int32))) (prem6 : Z.heap.size ≤ ob) (prem7 : Z.heap.size ≤ va) (prem8 : ob ≠ va) :
    Ok l Z own_m54 jdk_68_method_32_code 4 (some (.object "java/lang/AbstractStringBuilder")) ({ frames := 4, cells := 1, slots := 34, locals := 62 } : Room) #[(.ref ob), (.int (3 : Int32))] h0
      (fun v h L => ∃ vb : Addr, ∃ kb : ClassId, v = some (.ref ob) ∧ (Fr Z.heap.size L) ∧ (Keep h0 h [ob]) ∧ (h0.size ≤ vb) ∧ (Fld Z h ob "java/lang/AbstractStringBuilder" "value" "[B" (.ref vb)) ∧ (Fld Z h ob "java/lang/AbstractStringBuilder" "coder" "B" (.int (0 : Int32))) ∧ (Fld Z h ob "java/lang/AbstractStringBuilder" "count" "I" (.int (17 : Int32))) ∧ (Arv Z h vb kb .byte (34 : Int32) ((bs ++ [(51 : Int32)]).map Value.int) (.int (0 : Int32)))) := by
  refine Ok.mk pn55 ?_
  intro p e s m below meth c T0 hx hby hml hown hnm hret hlk hZ e0 X0
  refine Go.cast (ef_rm_abi_3_16_16 m ob) ?_
  have D := @hb _ _ hby
  have N0 := Fr.nil Z.heap.size
  have K0 : Keep h0 h0 [ob] := Keep.refl _ _
  obtain ⟨T219, X219, e219, st219⟩ := getF X0 hx hZ hown (host := "") (Or.inl (own_w hw (i := 60) rfl)) Via.refl e0 prem4 (g := (mkF m 1 #[rv ob, iv 3, .unset, .unset] [(.ref ob)])) rfl rfl (D d13_1)
  obtain ⟨T220, v220, L220, X220, q220, st220⟩ := callSt X219 hx hZ (y := own_m12) hown (own_w hw (i := 101) rfl) (own_w hw (i := 102) rfl) (own_w hw (i := 103) rfl) (own_w hw (i := 104) rfl) (by decide) (rm_ss_3 hw G   h0 O0 ) e219 (W := 1) (by decide) (by decide) (by decide) (by decide) (g := (mkF m 7 #[rv ob, iv 3, iv 16, .unset] [(.int 3), (.int 16)])) rfl (by rw [hml]; rfl) (argsL := [(.int 3)]) (rest := [(.int 16)]) (lenOf pd48 rfl) rfl rfl (Nat.le_of_eq rfl) (D d13_7)
  obtain ⟨rfl, e220, rfl⟩ := q220
  have N220 := Fr.app N0 (Fr.nil _)
  obtain ⟨T221, v221, L221, X221, q221, st221⟩ := callPr X220 hx hZ (y := own_m23) hown (own_w hw (i := 62) rfl) (own_w hw (i := 63) rfl) (own_selfsel (own_w hw (i := 63) rfl) (own_w hw (i := 65) rfl) (own_w hw (i := 64) rfl) (by decide)) (own_w hw (i := 64) rfl) (own_w hw (i := 26) rfl) (own_w hw (i := 66) rfl) (by decide) (rm_ecg_16_17_16 hw G ob va kv bs h0 O0 (prem0) prem1 prem2 prem3 prem5 prem6 prem4) e220 (W := 0) (by decide) (by decide) (by decide) (by decide) prem1 (g := (mkF m 14 #[rv ob, iv 3, iv 16, iv 17] [(.int 17), (.ref ob)])) rfl (by rw [hml]; rfl) (a := ob) (argsL := [(.int 17)]) (rest := []) (lenOf pd2 rfl) rfl rfl (Nat.le_of_eq rfl) (D d13_14)
  obtain ⟨vb_221, kb_221, rfl, N221q, K221q, p221_0, p221_1, p221_2, p221_3, p221_4⟩ := q221
  have N221 := Fr.app N220 N221q
  have O222 := Old0.keep O0 K221q (allS prem6 all0)
  have K222 := Keep.trans K0 K221q (allS (Or.inl (List.mem_of_getElem? (i := 0) rfl)) all0)
  have z_vb_221 : h0.size ≤ vb_221 := Nat.le_trans K0.1 p221_0
  have g_vb_221 : Z.heap.size ≤ vb_221 := Nat.le_trans O0.1 p221_0
  have ne_ob_vb_221 : ob ≠ vb_221 := Nat.ne_of_lt (Nat.lt_of_lt_of_le prem1.lt p221_0)
  have ne_va_vb_221 : va ≠ vb_221 := Nat.ne_of_lt (Nat.lt_of_lt_of_le prem5.lt p221_0)
  have f224 : Exa Z T221.heap ob "java/lang/StringBuilder" := (Exa.keep prem1 K221q)
  obtain ⟨T223, v223, L223, X223, q223, st223⟩ := callVi X221 hx hZ (y := own_m14) (z := own_m14) hown (own_w hw (i := 128) rfl) (own_w hw (i := 129) rfl) (notFace_of_selects (args := #[]) (mvT hZ (own_w hw (i := 131) rfl))) (own_w hw (i := 131) rfl) (own_w hw (i := 130) rfl) (own_w hw (i := 132) rfl) (own_w hw (i := 26) rfl) (by decide) (rm_lat hw G ob  T221.heap O222 p221_2) rfl (W := 0) (by decide) (by decide) (by decide) (by decide) f224 (g := (mkF m 18 #[rv ob, iv 3, iv 16, iv 17] [(.ref ob)])) rfl (by rw [hml]; rfl) (argsL := []) (rest := []) (lenOf pd52 rfl) rfl rfl (Nat.le_of_eq rfl) (D d13_18)
  obtain ⟨rfl, e223, rfl⟩ := q223
  have N223 := Fr.app N221 (Fr.nil _)
  obtain ⟨T226, X226, e226, st226⟩ := getF X223 hx hZ hown (host := "") (Or.inl (own_w hw (i := 32) rfl)) Via.refl e223 p221_1 (g := (mkF m 27 #[rv ob, iv 3, iv 16, iv 17] [(.ref ob), (.int 17), (.int 3)])) rfl rfl (D d13_27)
  obtain ⟨T227, v227, L227, X227, q227, st227⟩ := callSt X226 hx hZ (y := own_m50) hown (own_w hw (i := 133) rfl) (own_w hw (i := 134) rfl) (own_w hw (i := 103) rfl) (own_w hw (i := 135) rfl) (by decide) (rm_gch_3_16_34 hw G vb_221 kb_221 bs T221.heap O222 (prem0) p221_4 g_vb_221) e226 (W := 0) (by decide) (by decide) (by decide) (by decide) (g := (mkF m 30 #[rv ob, iv 3, iv 16, iv 17] [(.ref vb_221), (.int 17), (.int 3)])) rfl (by rw [hml]; rfl) (argsL := [(.int 3), (.int 17), (.ref vb_221)]) (rest := []) (lenOf pd53 rfl) rfl rfl (Nat.le_of_eq rfl) (D d13_30)
  obtain ⟨rfl, N227q, K227q, p227_0⟩ := q227
  have N227 := Fr.app N223 N227q
  have O228 := Old0.keep O222 K227q (allS g_vb_221 all0)
  have K228 := Keep.trans K222 K227q (allS (Or.inr z_vb_221) all0)
  have f230 : Exa Z T227.heap ob "java/lang/StringBuilder" := (Exa.keep f224 K227q)
  have f231 : Fld Z T227.heap ob "java/lang/AbstractStringBuilder" "count" "I" (.int 16) := (Fld.keep p221_3 K227q (ninS ne_ob_vb_221 nin0))
  obtain ⟨T229, h229, X229, e229, W229, st229⟩ := putF X227 hx hZ hown (host := "") (Or.inl (own_w hw (i := 60) rfl)) Via.refl rfl f231 f230 (Or.inl (own_w hw (i := 61) rfl)) (own_w hw (i := 17) rfl) (ty := .int) (by decide) rfl rfl (g := (mkF m 50 #[rv ob, iv 3, iv 16, iv 17] [(.int 17), (.ref ob)])) rfl rfl (D d13_50)
  have O232 := Old0.wr O228 W229 prem6
  have K232 := Keep.wr K228 W229 (Or.inl (List.mem_of_getElem? (i := 0) rfl))
  have N229 := Fr.snoc X229 N227 prem6
  have f229 : Fld Z h229 ob "java/lang/AbstractStringBuilder" "count" "I" (.int 17) := Fld.same W229 f231
  refine Go.of (T' := T229) (f' := (mkF m 53 #[rv ob, iv 3, iv 16, iv 17] [])) (fun _ k => XS.aloadN X0.here hx rfl (D d13_0) rfl rfl (st219 _ (XS.istoreN X219.here hx rfl (D d13_4) rfl (l' := #[rv ob, iv 3, iv 16, .unset]) rfl (XS.iloadN X219.here hx rfl (D d13_5) rfl (XS.iloadN X219.here hx rfl (D d13_6) rfl (st220 _ (XS.iadd X220.here hx rfl (D d13_10) rfl (XS.istoreN X220.here hx rfl (D d13_11) rfl (l' := #[rv ob, iv 3, iv 16, iv 17]) rfl (XS.aloadN X220.here hx rfl (D d13_12) rfl rfl (XS.iloadN X220.here hx rfl (D d13_13) rfl (st221 _ (XS.aloadN X221.here hx rfl (D d13_17) rfl rfl (st223 _ (XS.ifNo X223.here hx rfl (D d13_21) rfl ((if0 _ _).trans (feq (by decide : ¬ ((1 : Int32) = (0 : Int32)))).1) (XS.iloadN X223.here hx rfl (D d13_24) rfl (XS.iloadN X223.here hx rfl (D d13_25) rfl (XS.aloadN X223.here hx rfl (D d13_26) rfl rfl (st226 _ (st227 _ (XT.pop X227.here hx rfl (D d13_33) rfl rfl (XS.goto X227.here hx rfl (pc0 := 34) (pc' := 48) rfl (D d13_34) (by decide) (by decide) (XS.aloadN X227.here hx rfl (D d13_48) rfl rfl (XS.iloadN X227.here hx rfl (D d13_49) rfl (st229 _ k)))))))))))))))))))))))) ?_
  have f233 : Fld Z h229 ob "java/lang/AbstractStringBuilder" "value" "[B" (.ref vb_221) := (Fld.other W229 (Fld.keep p221_1 K227q (ninS ne_ob_vb_221 nin0)) (Or.inr (slot_ne (Or.inl (own_w hw (i := 33) rfl)) (Or.inl (own_w hw (i := 61) rfl)) (by decide) (t := (.array .byte)) (t' := .int) (by decide) (by decide))))
  have f234 : Fld Z h229 ob "java/lang/AbstractStringBuilder" "coder" "B" (.int 0) := (Fld.other W229 (Fld.keep p221_2 K227q (ninS ne_ob_vb_221 nin0)) (Or.inr (slot_ne (Or.inl (own_w hw (i := 35) rfl)) (Or.inl (own_w hw (i := 61) rfl)) (by decide) (t := .byte) (t' := .int) (by decide) (by decide))))
  have f235 : Arv Z h229 vb_221 kb_221 .byte (34 : Int32) ((bs ++ [(51 : Int32)]).map Value.int) (.int 0) := (Arv.other p227_0 W229 (Ne.symm ne_ob_vb_221))
  refine Go.of (T' := T229) (f' := (mkF m 54 #[rv ob, iv 3, iv 16, iv 17] [(.ref ob)])) (fun _ k => XS.aloadN X229.here hx rfl (D d13_53) rfl rfl k) ?_
  exact Go.retA X229 hx hlk hret rfl rfl (D d13_54) (by decide) (by decide) (by rw [e229]; exact ⟨vb_221, kb_221, rfl, N229, K232, z_vb_221, f233, f234, f229, f235⟩)
theorem d12_0 : decode jdk_67_method_15_code 0 = .ok (.aload_n 0, 1) := by decide +kernel
theorem d12_1 : decode jdk_67_method_15_code 1 = .ok (.iload_n 1, 1) := by decide +kernel
theorem d12_2 : decode jdk_67_method_15_code 2 = .ok (.invokespecial 53, 3) := by decide +kernel
theorem pd56 : parseMethodDescriptor "(I)Ljava/lang/AbstractStringBuilder;" = some ⟨[.int], some (.object "java/lang/AbstractStringBuilder")⟩ := by decide +kernel
theorem d12_5 : decode jdk_67_method_15_code 5 = .ok (.pop, 1) := by decide +kernel
theorem d12_6 : decode jdk_67_method_15_code 6 = .ok (.aload_n 0, 1) := by decide +kernel
theorem d12_7 : decode jdk_67_method_15_code 7 = .ok (.areturn, 1) := by decide +kernel
abbrev own_m57 : MethodName := (⟨"java/lang/StringBuilder", "append", "(I)Ljava/lang/StringBuilder;"⟩ : MethodName)
theorem ef_rm_sbi_3_16_16 (m : MethodId) (ob : Addr) : entryFrame m #[(.ref ob), (.int (3 : Int32))] 2 = mkF m 0 #[rv ob, iv (3 : Int32)] [] := by first | (simp [entryFrame, mkF, argsToLocals, Value.category]; done) | rfl
theorem pn58 : plainFor (⟨"java/lang/StringBuilder", "append", "(I)Ljava/lang/StringBuilder;"⟩ : MethodName) = true := by first | exact plainFor_of_name (by first | (simp [plainName, overriddenIn]; done) | decide +kernel) | decide +kernel
set_option maxRecDepth 65536 in
set_option maxHeartbeats 40000000 in
theorem rm_sbi_3_16_16 {l : Launch} {Z : State} {a0 : Array Value} {A : Nat → Addr} {KC : Nat → Cell} {IC : Nat → Int32} {VC : Nat → Value} (hw : ∀ d ∈ tables_1, d.before a0 Z = true) (G : own_Ctx Z A KC IC VC) (ob : Addr) (va : Addr) (kv : ClassId) (bs : List Int32) (h0 : Heap) (O0 : Ext Z.heap h0) (prem0 : bs.length = 16) (prem1 : Exa Z h0 ob "java/lang/StringBuilder") (prem2 : Fld Z h0 ob "java/lang/AbstractStringBuilder" "value" "[B" (.ref va)) (prem3 : Fld Z h0 ob "java/lang/AbstractStringBuilder" "coder" "B" (.int (0 : Int32))) (prem4 : Fld Z h0 ob "java/lang/AbstractStringBuilder" "count" "I" (.int (16 : Int32))) (prem5 : Arv Z h0 va kv .byte (16 : Int32) (bs.map Value.int) (.int (0 : Int32))) (prem6 : Z.heap.size ≤ ob) (prem7 : Z.heap.size ≤ va) (prem8 : ob ≠ va) :
    Ok l Z own_m57 jdk_67_method_15_code 2 (some (.object "java/lang/StringBuilder")) ({ frames := 5, cells := 1, slots := 34, locals := 77 } : Room) #[(.ref ob), (.int (3 : Int32))] h0
      (fun v h L => ∃ vb : Addr, ∃ kb : ClassId, v = some (.ref ob) ∧ (Fr Z.heap.size L) ∧ (Keep h0 h [ob]) ∧ (h0.size ≤ vb) ∧ (Fld Z h ob "java/lang/AbstractStringBuilder" "value" "[B" (.ref vb)) ∧ (Fld Z h ob "java/lang/AbstractStringBuilder" "coder" "B" (.int (0 : Int32))) ∧ (Fld Z h ob "java/lang/AbstractStringBuilder" "count" "I" (.int (17 : Int32))) ∧ (Arv Z h vb kb .byte (34 : Int32) ((bs ++ [(51 : Int32)]).map Value.int) (.int (0 : Int32)))) := by
  refine Ok.mk pn58 ?_
  intro p e s m below meth c T0 hx hby hml hown hnm hret hlk hZ e0 X0
  refine Go.cast (ef_rm_sbi_3_16_16 m ob) ?_
  have D := @hb _ _ hby
  have N0 := Fr.nil Z.heap.size
  have K0 : Keep h0 h0 [ob] := Keep.refl _ _
  obtain ⟨T236, v236, L236, X236, q236, st236⟩ := callSu X0 hx hZ (y := own_m54) hown (own_w hw (i := 97) rfl) (nf_mate (own_w hw (i := 65) rfl) rfl) (own_w hw (i := 98) rfl) (own_w hw (i := 44) rfl) (by decide) (own_w hw (i := 100) rfl) (own_w hw (i := 26) rfl) (by decide) (rm_abi_3_16_16 hw G ob va kv bs h0 O0 (prem0) prem1 prem2 prem3 prem4 prem5 prem6 prem7 prem8) e0 (W := 0) (by decide) (by decide) (by decide) (by decide) (Ins.self prem1) (g := (mkF m 2 #[rv ob, iv 3] [(.int 3), (.ref ob)])) rfl (by rw [hml]; rfl) (argsL := [(.int 3)]) (rest := []) (lenOf pd56 rfl) rfl rfl (Nat.le_of_eq rfl) (D d12_2)
  obtain ⟨vb_236, kb_236, rfl, N236q, K236q, p236_0, p236_1, p236_2, p236_3, p236_4⟩ := q236
  have N236 := Fr.app N0 N236q
  have O237 := Old0.keep O0 K236q (allS prem6 all0)
  have K237 := Keep.trans K0 K236q (allS (Or.inl (List.mem_of_getElem? (i := 0) rfl)) all0)
  have z_vb_236 : h0.size ≤ vb_236 := Nat.le_trans K0.1 p236_0
  have g_vb_236 : Z.heap.size ≤ vb_236 := Nat.le_trans O0.1 p236_0
  have ne_ob_vb_236 : ob ≠ vb_236 := Nat.ne_of_lt (Nat.lt_of_lt_of_le prem1.lt p236_0)
  have ne_va_vb_236 : va ≠ vb_236 := Nat.ne_of_lt (Nat.lt_of_lt_of_le prem5.lt p236_0)
  refine Go.of (T' := T236) (f' := (mkF m 7 #[rv ob, iv 3] [(.ref ob)])) (fun _ k => XS.aloadN X0.here hx rfl (D d12_0) rfl rfl (XS.iloadN X0.here hx rfl (D d12_1) rfl (st236 _ (XT.pop X236.here hx rfl (D d12_5) rfl rfl (XS.aloadN X236.here hx rfl (D d12_6) rfl rfl k))))) ?_
  exact Go.retA X236 hx hlk hret rfl rfl (D d12_7) (by decide) (by decide) ⟨vb_236, kb_236, rfl, N236, K237, z_vb_236, p236_1, p236_2, p236_3, p236_4⟩
theorem ef_rm_ecf_21_34 (m : MethodId) (ob : Addr) : entryFrame m #[(.ref ob), (.int (21 : Int32))] 3 = mkF m 0 #[rv ob, iv (21 : Int32), .unset] [] := by first | (simp [entryFrame, mkF, argsToLocals, Value.category]; done) | rfl
set_option maxRecDepth 65536 in
set_option maxHeartbeats 40000000 in
theorem rm_ecf_21_34 {l : Launch} {Z : State} {a0 : Array Value} {A : Nat → Addr} {KC : Nat → Cell} {IC : Nat → Int32} {VC : Nat → Value} (hw : ∀ d ∈ tables_1, d.before a0 Z = true) (G : own_Ctx Z A KC IC VC) (ob : Addr) (va : Addr) (kv : ClassId) (bs : List Int32) (h0 : Heap) (O0 : Ext Z.heap h0) (prem0 : Exa Z h0 ob "java/lang/StringBuilder") (prem1 : Fld Z h0 ob "java/lang/AbstractStringBuilder" "value" "[B" (.ref va)) (prem2 : Fld Z h0 ob "java/lang/AbstractStringBuilder" "coder" "B" (.int (0 : Int32))) (prem3 : Arv Z h0 va kv .byte (34 : Int32) (bs.map Value.int) (.int (0 : Int32))) :
    Ok l Z own_m23 jdk_68_method_9_code 3 none ({ frames := 0, cells := 0, slots := 0, locals := 0 } : Room) #[(.ref ob), (.int (21 : Int32))] h0
      (fun v h L => v = none ∧ (h = h0) ∧ (L = [])) := by
  refine Ok.mk pn24 ?_
  intro p e s m below meth c T0 hx hby hml hown hnm hret hlk hZ e0 X0
  refine Go.cast (ef_rm_ecf_21_34 m ob) ?_
  have D := @hb _ _ hby
  have N0 := Fr.nil Z.heap.size
  have K0 : Keep h0 h0 [] := Keep.refl _ _
  obtain ⟨T238, X238, e238, st238⟩ := getF X0 hx hZ hown (host := "") (Or.inl (own_w hw (i := 32) rfl)) Via.refl e0 prem1 (g := (mkF m 1 #[rv ob, iv 21, .unset] [(.ref ob)])) rfl rfl (D d8_1)
  obtain ⟨cl239, Ar239, qk239, S239, Ng239, H239, G239⟩ := id prem3
  obtain ⟨T240, X240, e240, st240⟩ := getF X238 hx hZ hown (host := "") (Or.inl (own_w hw (i := 34) rfl)) Via.refl e238 prem2 (g := (mkF m 6 #[rv ob, iv 21, .unset] [(.ref ob), (.int 34)])) rfl rfl (D d8_6)
  refine Go.of (T' := T240) (f' := (mkF m 38 #[rv ob, iv 21, iv 34] [])) (fun _ k => XS.aloadN X0.here hx rfl (D d8_0) rfl rfl (st238 _ (X238.arraylength hx (by rw [e238]; exact Ar239.1) (State.isArrayOf_alike hZ.alike Ar239.2.1) (g := (mkF m 4 #[rv ob, iv 21, .unset] [(.ref va)])) rfl rfl (D d8_4) _ (by rw [len_of S239 Ng239]; exact (XS.aloadN X238.here hx rfl (D d8_5) rfl rfl (st240 _ (XS.ishr X240.here hx rfl (D d8_9) rfl (XS.istoreN X240.here hx rfl (D d8_10) rfl (l' := #[rv ob, iv 21, iv 34]) rfl (XS.iloadN X240.here hx rfl (D d8_11) rfl (XS.iloadN X240.here hx rfl (D d8_12) rfl (XS.isub X240.here hx rfl (D d8_13) rfl (XS.ifYes X240.here hx rfl (pc0 := 14) (pc' := 38) rfl (D d8_14) rfl ((if0 _ _).trans (flt (by decide : ¬ ((0 : Int32) < (-13 : Int32)))).2.2.2) (by decide) (by decide) k)))))))))))) ?_
  exact Go.retV X240 hx hlk hret (D d8_38) (by decide) (by decide) (by rw [e240]; exact ⟨rfl, rfl, by simp⟩)
theorem ef_rm_getb_17_4_34 (m : MethodId) (so : Addr) (va : Addr) : entryFrame m #[(.ref so), (.ref va), (.int (17 : Int32)), (.int (0 : Int32))] 4 = mkF m 0 #[rv so, rv va, iv (17 : Int32), iv (0 : Int32)] [] := by first | (simp [entryFrame, mkF, argsToLocals, Value.category]; done) | rfl
set_option maxRecDepth 65536 in
set_option maxHeartbeats 40000000 in
theorem rm_getb_17_4_34 {l : Launch} {Z : State} {a0 : Array Value} {A : Nat → Addr} {KC : Nat → Cell} {IC : Nat → Int32} {VC : Nat → Value} (hw : ∀ d ∈ tables_1, d.before a0 Z = true) (G : own_Ctx Z A KC IC VC) (so : Addr) (va : Addr) (sv : Addr) (ks : ClassId) (ts : List Int32) (kv : ClassId) (bs : List Int32) (h0 : Heap) (O0 : Ext Z.heap h0) (prem0 : bs.length = 17) (prem1 : ts.length = 4) (prem2 : Exa Z h0 so "java/lang/String") (prem3 : Fld Z h0 so "java/lang/String" "value" "[B" (.ref sv)) (prem4 : Fld Z h0 so "java/lang/String" "coder" "B" (.int (0 : Int32))) (prem5 : Arv Z h0 sv ks .byte (4 : Int32) (ts.map Value.int) (.int (0 : Int32))) (prem6 : Arv Z h0 va kv .byte (34 : Int32) (bs.map Value.int) (.int (0 : Int32))) (prem7 : Z.heap.size ≤ va) :
    Ok l Z own_m25 jdk_42_method_147_code 4 none ({ frames := 1, cells := 0, slots := 0, locals := 18 } : Room) #[(.ref so), (.ref va), (.int (17 : Int32)), (.int (0 : Int32))] h0
      (fun v h L => v = none ∧ (Fr Z.heap.size L) ∧ (Keep h0 h [va]) ∧ (Arv Z h va kv .byte (34 : Int32) ((bs ++ ts).map Value.int) (.int (0 : Int32)))) := by
  refine Ok.mk pn26 ?_
  intro p e s m below meth c T0 hx hby hml hown hnm hret hlk hZ e0 X0
  refine Go.cast (ef_rm_getb_17_4_34 m so va) ?_
  have D := @hb _ _ hby
  have N0 := Fr.nil Z.heap.size
  have K0 : Keep h0 h0 [va] := Keep.refl _ _
  obtain ⟨T242, v242, L242, X242, q242, st242⟩ := callVi X0 hx hZ (y := own_m5) (z := own_m5) hown (own_w hw (i := 53) rfl) (own_w hw (i := 54) rfl) (notFace_of_selects (args := #[]) (mvT hZ (own_w hw (i := 56) rfl))) (own_w hw (i := 56) rfl) (own_w hw (i := 55) rfl) (own_w hw (i := 57) rfl) (own_w hw (i := 4) rfl) (by decide) (rm_coder hw G so  h0 O0 prem4) e0 (W := 0) (by decide) (by decide) (by decide) (by decide) prem2 (g := (mkF m 1 #[rv so, rv va, iv 17, iv 0] [(.ref so)])) rfl (by rw [hml]; rfl) (argsL := []) (rest := []) (lenOf pd7 rfl) rfl rfl (Nat.le_of_eq rfl) (D d11_1)
  obtain ⟨rfl, e242, rfl⟩ := q242
  have N242 := Fr.app N0 (Fr.nil _)
  obtain ⟨T244, X244, e244, st244⟩ := getF X242 hx hZ hown (host := "") (Or.inl (own_w hw (i := 52) rfl)) Via.refl e242 prem3 (g := (mkF m 9 #[rv so, rv va, iv 17, iv 0] [(.ref so)])) rfl rfl (D d11_9)
  obtain ⟨T245, X245, e245, st245⟩ := getF X244 hx hZ hown (host := "") (Or.inl (own_w hw (i := 52) rfl)) Via.refl e244 prem3 (g := (mkF m 18 #[rv so, rv va, iv 17, iv 0] [(.ref so), (.int 17), (.ref va), (.int 0), (.ref sv)])) rfl rfl (D d11_18)
  obtain ⟨cl246, Ar246, qk246, S246, Ng246, H246, G246⟩ := id prem5
  obtain ⟨T247, h247, L247, X247, e247, N247, Kq247, V247, st247⟩ := own_cpG X245 hx hZ hown (own_w hw (i := 83) rfl) (own_w hw (i := 86) rfl) (own_w hw (i := 84) rfl) (own_w hw (i := 85) rfl) e245 prem5 prem6 (dp := (17 : Int32)) (nn := (4 : Int32)) (by rw [prem0]; decide) (by decide) (by decide) (by rw [prem1]; decide) (by decide) (by decide) N242 prem7 (g := (mkF m 22 #[rv so, rv va, iv 17, iv 0] [(.int 4), (.int 17), (.ref va), (.int 0), (.ref sv)])) rfl (by rw [hml]; rfl) rfl (D d11_22) (by decide) (W := 0) (Nat.le_of_eq rfl) (by decide)
  have O248 := Old0.keep O0 Kq247 (allS prem7 all0)
  have K248 := Keep.trans K0 Kq247 (allS (Or.inl (List.mem_of_getElem? (i := 0) rfl)) all0)
  refine Go.of (T' := T247) (f' := (mkF m 43 #[rv so, rv va, iv 17, iv 0] [])) (fun _ k => XS.aloadN X0.here hx rfl (D d11_0) rfl rfl (st242 _ (XS.iloadN X242.here hx rfl (D d11_4) rfl (XS.icmpNo X242.here hx rfl (D d11_5) rfl (teq (by decide : (0 : Int32) = (0 : Int32))).2 (XS.aloadN X242.here hx rfl (D d11_8) rfl rfl (st244 _ (XS.iconst X244.here hx rfl (D d11_12) (XS.aloadN X244.here hx rfl (D d11_13) rfl rfl (XS.iloadN X244.here hx rfl (D d11_14) rfl (XS.iloadN X244.here hx rfl (D d11_15) rfl (XS.ishl X244.here hx rfl (D d11_16) rfl (XS.aloadN X244.here hx rfl (D d11_17) rfl rfl (st245 _ (X245.arraylength hx (by rw [e245]; exact Ar246.1) (State.isArrayOf_alike hZ.alike Ar246.2.1) (g := (mkF m 21 #[rv so, rv va, iv 17, iv 0] [(.ref sv), (.int 17), (.ref va), (.int 0), (.ref sv)])) rfl rfl (D d11_21) _ (by rw [len_of S246 Ng246]; exact (st247 _ (XS.goto X247.here hx rfl (pc0 := 25) (pc' := 43) rfl (D d11_25) (by decide) (by decide) k))))))))))))))))) ?_
  exact Go.retV X247 hx hlk hret (D d11_43) (by decide) (by decide) (by rw [e247]; exact ⟨rfl, N247, K248, V247⟩)
theorem ef_rm_put_17_4_34 (m : MethodId) (ob : Addr) (so : Addr) : entryFrame m #[(.ref ob), (.int (17 : Int32)), (.ref so)] 3 = mkF m 0 #[rv ob, iv (17 : Int32), rv so] [] := by first | (simp [entryFrame, mkF, argsToLocals, Value.category]; done) | rfl
set_option maxRecDepth 65536 in
set_option maxHeartbeats 40000000 in
theorem rm_put_17_4_34 {l : Launch} {Z : State} {a0 : Array Value} {A : Nat → Addr} {KC : Nat → Cell} {IC : Nat → Int32} {VC : Nat → Value} (hw : ∀ d ∈ tables_1, d.before a0 Z = true) (G : own_Ctx Z A KC IC VC) (ob : Addr) (so : Addr) (sv : Addr) (ks : ClassId) (ts : List Int32) (va : Addr) (kv : ClassId) (bs : List Int32) (h0 : Heap) (O0 : Ext Z.heap h0) (prem0 : bs.length = 17) (prem1 : ts.length = 4) (prem2 : Exa Z h0 ob "java/lang/StringBuilder") (prem3 : Fld Z h0 ob "java/lang/AbstractStringBuilder" "value" "[B" (.ref va)) (prem4 : Fld Z h0 ob "java/lang/AbstractStringBuilder" "coder" "B" (.int (0 : Int32))) (prem5 : Exa Z h0 so "java/lang/String") (prem6 : Fld Z h0 so "java/lang/String" "value" "[B" (.ref sv)) (prem7 : Fld Z h0 so "java/lang/String" "coder" "B" (.int (0 : Int32))) (prem8 : Arv Z h0 sv ks .byte (4 : Int32) (ts.map Value.int) (.int (0 : Int32))) (prem9 : Arv Z h0 va kv .byte (34 : Int32) (bs.map Value.int) (.int (0 : Int32))) (prem10 : Z.heap.size ≤ va) :
    Ok l Z own_m29 jdk_68_method_73_code 3 none ({ frames := 2, cells := 0, slots := 0, locals := 33 } : Room) #[(.ref ob), (.int (17 : Int32)), (.ref so)] h0
      (fun v h L => v = none ∧ (Fr Z.heap.size L) ∧ (Keep h0 h [va]) ∧ (Arv Z h va kv .byte (34 : Int32) ((bs ++ ts).map Value.int) (.int (0 : Int32)))) := by
  refine Ok.mk pn30 ?_
  intro p e s m below meth c T0 hx hby hml hown hnm hret hlk hZ e0 X0
  refine Go.cast (ef_rm_put_17_4_34 m ob so) ?_
  have D := @hb _ _ hby
  have N0 := Fr.nil Z.heap.size
  have K0 : Keep h0 h0 [va] := Keep.refl _ _
  obtain ⟨T249, v249, L249, X249, q249, st249⟩ := callPr X0 hx hZ (y := own_m10) hown (own_w hw (i := 72) rfl) (own_w hw (i := 73) rfl) (own_selfsel (own_w hw (i := 73) rfl) (own_w hw (i := 75) rfl) (own_w hw (i := 74) rfl) (by decide)) (own_w hw (i := 74) rfl) (own_w hw (i := 26) rfl) (own_w hw (i := 76) rfl) (by decide) (rm_infl hw G ob so  h0 O0 prem4 prem5 prem7) e0 (W := 0) (by decide) (by decide) (by decide) (by decide) prem2 (g := (mkF m 2 #[rv ob, iv 17, rv so] [(.ref so), (.ref ob)])) rfl (by rw [hml]; rfl) (a := ob) (argsL := [(.ref so)]) (rest := []) (lenOf pd27 rfl) rfl rfl (Nat.le_of_eq rfl) (D d9_2)
  obtain ⟨rfl, e249, rfl⟩ := q249
  have N249 := Fr.app N0 (Fr.nil _)
  obtain ⟨T250, X250, e250, st250⟩ := getF X249 hx hZ hown (host := "") (Or.inl (own_w hw (i := 32) rfl)) Via.refl e249 prem3 (g := (mkF m 7 #[rv ob, iv 17, rv so] [(.ref ob), (.ref so)])) rfl rfl (D d9_7)
  obtain ⟨T251, X251, e251, st251⟩ := getF X250 hx hZ hown (host := "") (Or.inl (own_w hw (i := 34) rfl)) Via.refl e250 prem4 (g := (mkF m 12 #[rv ob, iv 17, rv so] [(.ref ob), (.int 17), (.ref va), (.ref so)])) rfl rfl (D d9_12)
  obtain ⟨T252, v252, L252, X252, q252, st252⟩ := callVi X251 hx hZ (y := own_m25) (z := own_m25) hown (own_w hw (i := 78) rfl) (own_w hw (i := 79) rfl) (notFace_of_selects (args := #[]) (mvT hZ (own_w hw (i := 81) rfl))) (own_w hw (i := 81) rfl) (own_w hw (i := 80) rfl) (own_w hw (i := 82) rfl) (own_w hw (i := 4) rfl) (by decide) (rm_getb_17_4_34 hw G so va sv ks ts kv bs h0 O0 (prem0) (prem1) prem5 prem6 prem7 prem8 prem9 prem10) e251 (W := 0) (by decide) (by decide) (by decide) (by decide) prem5 (g := (mkF m 15 #[rv ob, iv 17, rv so] [(.int 0), (.int 17), (.ref va), (.ref so)])) rfl (by rw [hml]; rfl) (argsL := [(.ref va), (.int 17), (.int 0)]) (rest := []) (lenOf pd28 rfl) rfl rfl (Nat.le_of_eq rfl) (D d9_15)
  obtain ⟨rfl, N252q, K252q, p252_0⟩ := q252
  have N252 := Fr.app N249 N252q
  have O253 := Old0.keep O0 K252q (allS prem10 all0)
  have K253 := Keep.trans K0 K252q (allS (Or.inl (List.mem_of_getElem? (i := 0) rfl)) all0)
  refine Go.of (T' := T252) (f' := (mkF m 18 #[rv ob, iv 17, rv so] [])) (fun _ k => XS.aloadN X0.here hx rfl (D d9_0) rfl rfl (XS.aloadN X0.here hx rfl (D d9_1) rfl rfl (st249 _ (XS.aloadN X249.here hx rfl (D d9_5) rfl rfl (XS.aloadN X249.here hx rfl (D d9_6) rfl rfl (st250 _ (XS.iloadN X250.here hx rfl (D d9_10) rfl (XS.aloadN X250.here hx rfl (D d9_11) rfl rfl (st251 _ (st252 _ k)))))))))) ?_
  exact Go.retV X252 hx hlk hret (D d9_18) (by decide) (by decide) ⟨rfl, N252, K253, p252_0⟩
theorem ef_rm_aba_17_4_34 (m : MethodId) (ob : Addr) (so : Addr) : entryFrame m #[(.ref ob), (.ref so)] 3 = mkF m 0 #[rv ob, rv so, .unset] [] := by first | (simp [entryFrame, mkF, argsToLocals, Value.category]; done) | rfl
set_option maxRecDepth 65536 in
set_option maxHeartbeats 40000000 in
theorem rm_aba_17_4_34 {l : Launch} {Z : State} {a0 : Array Value} {A : Nat → Addr} {KC : Nat → Cell} {IC : Nat → Int32} {VC : Nat → Value} (hw : ∀ d ∈ tables_1, d.before a0 Z = true) (G : own_Ctx Z A KC IC VC) (ob : Addr) (so : Addr) (sv : Addr) (ks : ClassId) (ts : List Int32) (va : Addr) (kv : ClassId) (bs : List Int32) (h0 : Heap) (O0 : Ext Z.heap h0) (prem0 : bs.length = 17) (prem1 : ts.length = 4) (prem2 : Exa Z h0 ob "java/lang/StringBuilder") (prem3 : Fld Z h0 ob "java/lang/AbstractStringBuilder" "value" "[B" (.ref va)) (prem4 : Fld Z h0 ob "java/lang/AbstractStringBuilder" "coder" "B" (.int (0 : Int32))) (prem5 : Fld Z h0 ob "java/lang/AbstractStringBuilder" "count" "I" (.int (17 : Int32))) (prem6 : Exa Z h0 so "java/lang/String") (prem7 : Fld Z h0 so "java/lang/String" "value" "[B" (.ref sv)) (prem8 : Fld Z h0 so "java/lang/String" "coder" "B" (.int (0 : Int32))) (prem9 : Arv Z h0 sv ks .byte (4 : Int32) (ts.map Value.int) (.int (0 : Int32))) (prem10 : Arv Z h0 va kv .byte (34 : Int32) (bs.map Value.int) (.int (0 : Int32))) (prem11 : Z.heap.size ≤ ob) (prem12 : Z.heap.size ≤ va) (prem13 : ob ≠ va) (prem14 : so ≠ ob) (prem15 : sv ≠ ob) (prem16 : so ≠ va) (prem17 : sv ≠ va) :
    Ok l Z own_m33 jdk_68_method_22_code 3 (some (.object "java/lang/AbstractStringBuilder")) ({ frames := 3, cells := 0, slots := 0, locals := 47 } : Room) #[(.ref ob), (.ref so)] h0
      (fun v h L => v = some (.ref ob) ∧ (Fr Z.heap.size L) ∧ (Keep h0 h [ob, va]) ∧ (Fld Z h ob "java/lang/AbstractStringBuilder" "value" "[B" (.ref va)) ∧ (Fld Z h ob "java/lang/AbstractStringBuilder" "coder" "B" (.int (0 : Int32))) ∧ (Fld Z h ob "java/lang/AbstractStringBuilder" "count" "I" (.int (21 : Int32))) ∧ (Arv Z h va kv .byte (34 : Int32) ((bs ++ ts).map Value.int) (.int (0 : Int32)))) := by
  refine Ok.mk pn34 ?_
  intro p e s m below meth c T0 hx hby hml hown hnm hret hlk hZ e0 X0
  refine Go.cast (ef_rm_aba_17_4_34 m ob so) ?_
  have D := @hb _ _ hby
  have N0 := Fr.nil Z.heap.size
  have K0 : Keep h0 h0 [ob, va] := Keep.refl _ _
  obtain ⟨T254, v254, L254, X254, q254, st254⟩ := callVi X0 hx hZ (y := own_m8) (z := own_m8) hown (own_w hw (i := 47) rfl) (own_w hw (i := 48) rfl) (notFace_of_selects (args := #[]) (mvT hZ (own_w hw (i := 50) rfl))) (own_w hw (i := 50) rfl) (own_w hw (i := 49) rfl) (own_w hw (i := 51) rfl) (own_w hw (i := 4) rfl) (by decide) (rm_len hw G so sv ks ((4 : Int32)) ts h0 O0 prem6 prem7 prem8 prem9 (by decide)) e0 (W := 0) (by decide) (by decide) (by decide) (by decide) prem6 (g := (mkF m 10 #[rv ob, rv so, .unset] [(.ref so)])) rfl (by rw [hml]; rfl) (argsL := []) (rest := []) (lenOf pd31 rfl) rfl rfl (Nat.le_of_eq rfl) (D d5_10)
  obtain ⟨rfl, e254, rfl⟩ := q254
  have N254 := Fr.app N0 (Fr.nil _)
  obtain ⟨T255, X255, e255, st255⟩ := getF X254 hx hZ hown (host := "") (Or.inl (own_w hw (i := 60) rfl)) Via.refl e254 prem5 (g := (mkF m 16 #[rv ob, rv so, iv 4] [(.ref ob), (.ref ob)])) rfl rfl (D d5_16)
  obtain ⟨T256, v256, L256, X256, q256, st256⟩ := callPr X255 hx hZ (y := own_m23) hown (own_w hw (i := 62) rfl) (own_w hw (i := 63) rfl) (own_selfsel (own_w hw (i := 63) rfl) (own_w hw (i := 65) rfl) (own_w hw (i := 64) rfl) (by decide)) (own_w hw (i := 64) rfl) (own_w hw (i := 26) rfl) (own_w hw (i := 66) rfl) (by decide) (rm_ecf_21_34 hw G ob va kv bs h0 O0 prem2 prem3 prem4 prem10) e255 (W := 0) (by decide) (by decide) (by decide) (by decide) prem2 (g := (mkF m 21 #[rv ob, rv so, iv 4] [(.int 21), (.ref ob)])) rfl (by rw [hml]; rfl) (a := ob) (argsL := [(.int 21)]) (rest := []) (lenOf pd2 rfl) rfl rfl (Nat.le_of_eq rfl) (D d5_21)
  obtain ⟨rfl, e256, rfl⟩ := q256
  have N256 := Fr.app N254 (Fr.nil _)
  obtain ⟨T257, X257, e257, st257⟩ := getF X256 hx hZ hown (host := "") (Or.inl (own_w hw (i := 60) rfl)) Via.refl e256 prem5 (g := (mkF m 26 #[rv ob, rv so, iv 4] [(.ref ob), (.ref ob)])) rfl rfl (D d5_26)
  obtain ⟨T258, v258, L258, X258, q258, st258⟩ := callPr X257 hx hZ (y := own_m29) hown (own_w hw (i := 67) rfl) (own_w hw (i := 68) rfl) (own_selfsel (own_w hw (i := 68) rfl) (own_w hw (i := 70) rfl) (own_w hw (i := 69) rfl) (by decide)) (own_w hw (i := 69) rfl) (own_w hw (i := 26) rfl) (own_w hw (i := 71) rfl) (by decide) (rm_put_17_4_34 hw G ob so sv ks ts va kv bs h0 O0 (prem0) (prem1) prem2 prem3 prem4 prem6 prem7 prem8 prem9 prem10 prem12) e257 (W := 0) (by decide) (by decide) (by decide) (by decide) prem2 (g := (mkF m 30 #[rv ob, rv so, iv 4] [(.ref so), (.int 17), (.ref ob)])) rfl (by rw [hml]; rfl) (a := ob) (argsL := [(.int 17), (.ref so)]) (rest := []) (lenOf pd32 rfl) rfl rfl (Nat.le_of_eq rfl) (D d5_30)
  obtain ⟨rfl, N258q, K258q, p258_0⟩ := q258
  have N258 := Fr.app N256 N258q
  have O259 := Old0.keep O0 K258q (allS prem12 all0)
  have K259 := Keep.trans K0 K258q (allS (Or.inl (List.mem_of_getElem? (i := 1) rfl)) all0)
  have f261 : Fld Z T258.heap ob "java/lang/AbstractStringBuilder" "count" "I" (.int 17) := (Fld.keep prem5 K258q (ninS prem13 nin0))
  obtain ⟨T260, X260, e260, st260⟩ := getF X258 hx hZ hown (host := "") (Or.inl (own_w hw (i := 60) rfl)) Via.refl rfl f261 (g := (mkF m 35 #[rv ob, rv so, iv 4] [(.ref ob), (.ref ob)])) rfl rfl (D d5_35)
  have f263 : Exa Z T258.heap ob "java/lang/StringBuilder" := (Exa.keep prem2 K258q)
  obtain ⟨T262, h262, X262, e262, W262, st262⟩ := putF X260 hx hZ hown (host := "") (Or.inl (own_w hw (i := 60) rfl)) Via.refl e260 f261 f263 (Or.inl (own_w hw (i := 61) rfl)) (own_w hw (i := 17) rfl) (ty := .int) (by decide) rfl rfl (g := (mkF m 40 #[rv ob, rv so, iv 4] [(.int 21), (.ref ob)])) rfl rfl (D d5_40)
  have O264 := Old0.wr O259 W262 prem11
  have K264 := Keep.wr K259 W262 (Or.inl (List.mem_of_getElem? (i := 0) rfl))
  have N262 := Fr.snoc X262 N258 prem11
  have f262 : Fld Z h262 ob "java/lang/AbstractStringBuilder" "count" "I" (.int 21) := Fld.same W262 f261
  have f265 : Fld Z h262 ob "java/lang/AbstractStringBuilder" "value" "[B" (.ref va) := (Fld.other W262 (Fld.keep prem3 K258q (ninS prem13 nin0)) (Or.inr (slot_ne (Or.inl (own_w hw (i := 33) rfl)) (Or.inl (own_w hw (i := 61) rfl)) (by decide) (t := (.array .byte)) (t' := .int) (by decide) (by decide))))
  have f266 : Fld Z h262 ob "java/lang/AbstractStringBuilder" "coder" "B" (.int 0) := (Fld.other W262 (Fld.keep prem4 K258q (ninS prem13 nin0)) (Or.inr (slot_ne (Or.inl (own_w hw (i := 35) rfl)) (Or.inl (own_w hw (i := 61) rfl)) (by decide) (t := .byte) (t' := .int) (by decide) (by decide))))
  have f267 : Arv Z h262 va kv .byte (34 : Int32) ((bs ++ ts).map Value.int) (.int 0) := (Arv.other p258_0 W262 (Ne.symm prem13))
  refine Go.of (T' := T262) (f' := (mkF m 44 #[rv ob, rv so, iv 4] [(.ref ob)])) (fun _ k => XS.aloadN X0.here hx rfl (D d5_0) rfl rfl (XS.ifnonnullYes X0.here hx rfl (pc0 := 1) (pc' := 9) rfl (D d5_1) rfl (by decide) (by decide) (XS.aloadN X0.here hx rfl (D d5_9) rfl rfl (st254 _ (XS.istoreN X254.here hx rfl (D d5_13) rfl (l' := #[rv ob, rv so, iv 4]) rfl (XS.aloadN X254.here hx rfl (D d5_14) rfl rfl (XS.aloadN X254.here hx rfl (D d5_15) rfl rfl (st255 _ (XS.iloadN X255.here hx rfl (D d5_19) rfl (XS.iadd X255.here hx rfl (D d5_20) rfl (st256 _ (XS.aloadN X256.here hx rfl (D d5_24) rfl rfl (XS.aloadN X256.here hx rfl (D d5_25) rfl rfl (st257 _ (XS.aloadN X257.here hx rfl (D d5_29) rfl rfl (st258 _ (XS.aloadN X258.here hx rfl (D d5_33) rfl rfl (XS.dup X258.here hx rfl (D d5_34) rfl rfl (st260 _ (XS.iloadN X260.here hx rfl (D d5_38) rfl (XS.iadd X260.here hx rfl (D d5_39) rfl (st262 _ (XS.aloadN X262.here hx rfl (D d5_43) rfl rfl k))))))))))))))))))))))) ?_
  exact Go.retA X262 hx hlk hret rfl rfl (D d5_44) (by decide) (by decide) (by rw [e262]; exact ⟨rfl, N262, K264, f265, f266, f262, f267⟩)
theorem ef_rm_sba_17_4_34 (m : MethodId) (ob : Addr) (so : Addr) : entryFrame m #[(.ref ob), (.ref so)] 2 = mkF m 0 #[rv ob, rv so] [] := by first | (simp [entryFrame, mkF, argsToLocals, Value.category]; done) | rfl
set_option maxRecDepth 65536 in
set_option maxHeartbeats 40000000 in
theorem rm_sba_17_4_34 {l : Launch} {Z : State} {a0 : Array Value} {A : Nat → Addr} {KC : Nat → Cell} {IC : Nat → Int32} {VC : Nat → Value} (hw : ∀ d ∈ tables_1, d.before a0 Z = true) (G : own_Ctx Z A KC IC VC) (ob : Addr) (so : Addr) (sv : Addr) (ks : ClassId) (ts : List Int32) (va : Addr) (kv : ClassId) (bs : List Int32) (h0 : Heap) (O0 : Ext Z.heap h0) (prem0 : bs.length = 17) (prem1 : ts.length = 4) (prem2 : Exa Z h0 ob "java/lang/StringBuilder") (prem3 : Fld Z h0 ob "java/lang/AbstractStringBuilder" "value" "[B" (.ref va)) (prem4 : Fld Z h0 ob "java/lang/AbstractStringBuilder" "coder" "B" (.int (0 : Int32))) (prem5 : Fld Z h0 ob "java/lang/AbstractStringBuilder" "count" "I" (.int (17 : Int32))) (prem6 : Exa Z h0 so "java/lang/String") (prem7 : Fld Z h0 so "java/lang/String" "value" "[B" (.ref sv)) (prem8 : Fld Z h0 so "java/lang/String" "coder" "B" (.int (0 : Int32))) (prem9 : Arv Z h0 sv ks .byte (4 : Int32) (ts.map Value.int) (.int (0 : Int32))) (prem10 : Arv Z h0 va kv .byte (34 : Int32) (bs.map Value.int) (.int (0 : Int32))) (prem11 : Z.heap.size ≤ ob) (prem12 : Z.heap.size ≤ va) (prem13 : ob ≠ va) (prem14 : so ≠ ob) (prem15 : sv ≠ ob) (prem16 : so ≠ va) (prem17 : sv ≠ va) :
    Ok l Z own_m36 jdk_67_method_7_code 2 (some (.object "java/lang/StringBuilder")) ({ frames := 4, cells := 0, slots := 0, locals := 61 } : Room) #[(.ref ob), (.ref so)] h0
      (fun v h L => v = some (.ref ob) ∧ (Fr Z.heap.size L) ∧ (Keep h0 h [ob, va]) ∧ (Fld Z h ob "java/lang/AbstractStringBuilder" "value" "[B" (.ref va)) ∧ (Fld Z h ob "java/lang/AbstractStringBuilder" "coder" "B" (.int (0 : Int32))) ∧ (Fld Z h ob "java/lang/AbstractStringBuilder" "count" "I" (.int (21 : Int32))) ∧ (Arv Z h va kv .byte (34 : Int32) ((bs ++ ts).map Value.int) (.int (0 : Int32)))) := by
  refine Ok.mk pn37 ?_
  intro p e s m below meth c T0 hx hby hml hown hnm hret hlk hZ e0 X0
  refine Go.cast (ef_rm_sba_17_4_34 m ob so) ?_
  have D := @hb _ _ hby
  have N0 := Fr.nil Z.heap.size
  have K0 : Keep h0 h0 [ob, va] := Keep.refl _ _
  obtain ⟨T268, v268, L268, X268, q268, st268⟩ := callSu X0 hx hZ (y := own_m33) hown (own_w hw (i := 42) rfl) (nf_mate (own_w hw (i := 65) rfl) rfl) (own_w hw (i := 43) rfl) (own_w hw (i := 44) rfl) (by decide) (own_w hw (i := 46) rfl) (own_w hw (i := 26) rfl) (by decide) (rm_aba_17_4_34 hw G ob so sv ks ts va kv bs h0 O0 (prem0) (prem1) prem2 prem3 prem4 prem5 prem6 prem7 prem8 prem9 prem10 prem11 prem12 prem13 prem14 prem15 prem16 prem17) e0 (W := 0) (by decide) (by decide) (by decide) (by decide) (Ins.self prem2) (g := (mkF m 2 #[rv ob, rv so] [(.ref so), (.ref ob)])) rfl (by rw [hml]; rfl) (argsL := [(.ref so)]) (rest := []) (lenOf pd35 rfl) rfl rfl (Nat.le_of_eq rfl) (D d4_2)
  obtain ⟨rfl, N268q, K268q, p268_0, p268_1, p268_2, p268_3⟩ := q268
  have N268 := Fr.app N0 N268q
  have O269 := Old0.keep O0 K268q (allS prem11 (allS prem12 all0))
  have K269 := Keep.trans K0 K268q (allS (Or.inl (List.mem_of_getElem? (i := 0) rfl)) (allS (Or.inl (List.mem_of_getElem? (i := 1) rfl)) all0))
  refine Go.of (T' := T268) (f' := (mkF m 7 #[rv ob, rv so] [(.ref ob)])) (fun _ k => XS.aloadN X0.here hx rfl (D d4_0) rfl rfl (XS.aloadN X0.here hx rfl (D d4_1) rfl rfl (st268 _ (XT.pop X268.here hx rfl (D d4_5) rfl rfl (XS.aloadN X268.here hx rfl (D d4_6) rfl rfl k))))) ?_
  exact Go.retA X268 hx hlk hret rfl rfl (D d4_7) (by decide) (by decide) ⟨rfl, N268, K269, p268_0, p268_1, p268_2, p268_3⟩
theorem ef_rm_ecf_23_34 (m : MethodId) (ob : Addr) : entryFrame m #[(.ref ob), (.int (23 : Int32))] 3 = mkF m 0 #[rv ob, iv (23 : Int32), .unset] [] := by first | (simp [entryFrame, mkF, argsToLocals, Value.category]; done) | rfl
set_option maxRecDepth 65536 in
set_option maxHeartbeats 40000000 in
theorem rm_ecf_23_34 {l : Launch} {Z : State} {a0 : Array Value} {A : Nat → Addr} {KC : Nat → Cell} {IC : Nat → Int32} {VC : Nat → Value} (hw : ∀ d ∈ tables_1, d.before a0 Z = true) (G : own_Ctx Z A KC IC VC) (ob : Addr) (va : Addr) (kv : ClassId) (bs : List Int32) (h0 : Heap) (O0 : Ext Z.heap h0) (prem0 : Exa Z h0 ob "java/lang/StringBuilder") (prem1 : Fld Z h0 ob "java/lang/AbstractStringBuilder" "value" "[B" (.ref va)) (prem2 : Fld Z h0 ob "java/lang/AbstractStringBuilder" "coder" "B" (.int (0 : Int32))) (prem3 : Arv Z h0 va kv .byte (34 : Int32) (bs.map Value.int) (.int (0 : Int32))) :
    Ok l Z own_m23 jdk_68_method_9_code 3 none ({ frames := 0, cells := 0, slots := 0, locals := 0 } : Room) #[(.ref ob), (.int (23 : Int32))] h0
      (fun v h L => v = none ∧ (h = h0) ∧ (L = [])) := by
  refine Ok.mk pn24 ?_
  intro p e s m below meth c T0 hx hby hml hown hnm hret hlk hZ e0 X0
  refine Go.cast (ef_rm_ecf_23_34 m ob) ?_
  have D := @hb _ _ hby
  have N0 := Fr.nil Z.heap.size
  have K0 : Keep h0 h0 [] := Keep.refl _ _
  obtain ⟨T270, X270, e270, st270⟩ := getF X0 hx hZ hown (host := "") (Or.inl (own_w hw (i := 32) rfl)) Via.refl e0 prem1 (g := (mkF m 1 #[rv ob, iv 23, .unset] [(.ref ob)])) rfl rfl (D d8_1)
  obtain ⟨cl271, Ar271, qk271, S271, Ng271, H271, G271⟩ := id prem3
  obtain ⟨T272, X272, e272, st272⟩ := getF X270 hx hZ hown (host := "") (Or.inl (own_w hw (i := 34) rfl)) Via.refl e270 prem2 (g := (mkF m 6 #[rv ob, iv 23, .unset] [(.ref ob), (.int 34)])) rfl rfl (D d8_6)
  refine Go.of (T' := T272) (f' := (mkF m 38 #[rv ob, iv 23, iv 34] [])) (fun _ k => XS.aloadN X0.here hx rfl (D d8_0) rfl rfl (st270 _ (X270.arraylength hx (by rw [e270]; exact Ar271.1) (State.isArrayOf_alike hZ.alike Ar271.2.1) (g := (mkF m 4 #[rv ob, iv 23, .unset] [(.ref va)])) rfl rfl (D d8_4) _ (by rw [len_of S271 Ng271]; exact (XS.aloadN X270.here hx rfl (D d8_5) rfl rfl (st272 _ (XS.ishr X272.here hx rfl (D d8_9) rfl (XS.istoreN X272.here hx rfl (D d8_10) rfl (l' := #[rv ob, iv 23, iv 34]) rfl (XS.iloadN X272.here hx rfl (D d8_11) rfl (XS.iloadN X272.here hx rfl (D d8_12) rfl (XS.isub X272.here hx rfl (D d8_13) rfl (XS.ifYes X272.here hx rfl (pc0 := 14) (pc' := 38) rfl (D d8_14) rfl ((if0 _ _).trans (flt (by decide : ¬ ((0 : Int32) < (-11 : Int32)))).2.2.2) (by decide) (by decide) k)))))))))))) ?_
  exact Go.retV X272 hx hlk hret (D d8_38) (by decide) (by decide) (by rw [e272]; exact ⟨rfl, rfl, by simp⟩)
theorem d21_91 : decode jdk_33_method_12_code 91 = .ok (.aload_n 2, 1) := by decide +kernel
theorem d21_92 : decode jdk_33_method_12_code 92 = .ok (.iinc 5 (-1), 3) := by decide +kernel
theorem d21_95 : decode jdk_33_method_12_code 95 = .ok (.iload 5, 2) := by decide +kernel
theorem d21_97 : decode jdk_33_method_12_code 97 = .ok (.getstatic 87, 3) := by decide +kernel
theorem d21_100 : decode jdk_33_method_12_code 100 = .ok (.iload_n 0, 1) := by decide +kernel
theorem d21_101 : decode jdk_33_method_12_code 101 = .ok (.ineg, 1) := by decide +kernel
theorem d21_102 : decode jdk_33_method_12_code 102 = .ok (.baload, 1) := by decide +kernel
theorem d21_103 : decode jdk_33_method_12_code 103 = .ok (.bastore, 1) := by decide +kernel
theorem ef_rm_gch_50_21_34 (m : MethodId) (va : Addr) : entryFrame m #[(.int (50 : Int32)), (.int (23 : Int32)), (.ref va)] 7 = mkF m 0 #[iv (50 : Int32), iv (23 : Int32), rv va, .unset, .unset, .unset, .unset] [] := by first | (simp [entryFrame, mkF, argsToLocals, Value.category]; done) | rfl
set_option maxRecDepth 65536 in
set_option maxHeartbeats 40000000 in
theorem rm_gch_50_21_34 {l : Launch} {Z : State} {a0 : Array Value} {A : Nat → Addr} {KC : Nat → Cell} {IC : Nat → Int32} {VC : Nat → Value} (hw : ∀ d ∈ tables_1, d.before a0 Z = true) (G : own_Ctx Z A KC IC VC) (va : Addr) (kv : ClassId) (bs : List Int32) (h0 : Heap) (O0 : Ext Z.heap h0) (prem0 : bs.length = 21) (prem1 : Arv Z h0 va kv .byte (34 : Int32) (bs.map Value.int) (.int (0 : Int32))) (prem2 : Z.heap.size ≤ va) :
    Ok l Z own_m50 jdk_33_method_12_code 7 (some .int) ({ frames := 0, cells := 0, slots := 0, locals := 0 } : Room) #[(.int (50 : Int32)), (.int (23 : Int32)), (.ref va)] h0
      (fun v h L => v = some (.int (21 : Int32)) ∧ (Fr Z.heap.size L) ∧ (Keep h0 h [va]) ∧ (Arv Z h va kv .byte (34 : Int32) ((bs ++ [(53 : Int32), (48 : Int32)]).map Value.int) (.int (0 : Int32)))) := by
  refine Ok.mk pn51 ?_
  intro p e s m below meth c T0 hx hby hml hown hnm hret hlk hZ e0 X0
  refine Go.cast (ef_rm_gch_50_21_34 m va) ?_
  obtain ⟨-, -, -, -, -, -, -, -, -, -, -, -, -, -, -, -, -, -, -, -, S_DigitOnes, -, S_DigitTens, -, -, -, AD_s_DigitOnes, ZD_s_DigitOnes, -, GD_s_DigitOnes_50, -, AD_s_DigitTens, ZD_s_DigitTens, GD_s_DigitTens_50, -⟩ := id G
  have D := @hb _ _ hby
  have N0 := Fr.nil Z.heap.size
  have K0 : Keep h0 h0 [va] := Keep.refl _ _
  have fp : Arv Z h0 va kv .byte (34 : Int32) ((bs ++ [(0 : Int32), (0 : Int32)]).map Value.int) (.int 0) := Arv.pad prem1 (own_padZ bs 2)
  obtain ⟨T277, X277, e277, st277⟩ := getS2 X0 hx hZ hown (host := "") (Or.inl (own_w hw (i := 136) rfl)) Via.refl e0 (Sta.ext O0 S_DigitOnes) (g := (mkF m 78 #[iv (-50 : Int32), iv 23, rv va, .unset, .unset, iv 22, iv 0] [(.int 22), (.ref va)])) rfl (D d21_78)
  have A278 := Arr.ext O0 AD_s_DigitOnes
  have hin278 : ¬ ((50 : Int32) < 0 ∨ ((KC 2)).slots.size ≤ ((50 : Int32)).toNatClampNeg) := by rw [ZD_s_DigitOnes]; decide
  obtain ⟨cl279, Ar279, qk279, S279, Ng279, H279, G279⟩ := id fp
  obtain ⟨T279, h279, X279, e279, W279, st279⟩ := stB X277 hx hZ e277 Ar279 (j := (22 : Int32)) (inb_of S279 ⟨by decide, by decide⟩) (g := (mkF m 84 #[iv (-50 : Int32), iv 23, rv va, .unset, .unset, iv 22, iv 0] [(.int 48), (.int 22), (.ref va)])) rfl rfl (D d21_84)
  have O280 := Old0.wr O0 W279 prem2
  have K280 := Keep.wr K0 W279 (Or.inl (List.mem_of_getElem? (i := 0) rfl))
  have f279 : Arv Z h279 va kv .byte (34 : Int32) (((bs ++ [(0 : Int32), (0 : Int32)]).map Value.int).set 22 (.int 48)) (.int 0) := Arv.set Ar279 qk279 S279 Ng279 H279 G279 (v := (.int 48)) (by decide) W279 22 rfl (by simp [prem0])
  have N279 := Fr.snoc X279 N0 prem2
  refine Go.of (T' := T279) (f' := (mkF m 88 #[iv (-50 : Int32), iv 23, rv va, .unset, .unset, iv 22, iv 0] [(.int (-9 : Int32)), (.int (-50 : Int32))])) (fun _ k => XS.iloadN X0.here hx rfl (D d21_0) rfl (XS.istore X0.here hx rfl (D d21_1) rfl (l' := #[iv 50, iv 23, rv va, .unset, .unset, iv 23, .unset]) rfl (XS.iloadN X0.here hx rfl (D d21_3) rfl (XS.ifYes X0.here hx rfl (pc0 := 4) (pc' := 11) rfl (D d21_4) rfl ((if0 _ _).trans (flt (by decide : ¬ ((50 : Int32) < (0 : Int32)))).2.1) (by decide) (by decide) (XS.iconst X0.here hx rfl (D d21_11) (XS.istore X0.here hx rfl (D d21_12) rfl (l' := #[iv 50, iv 23, rv va, .unset, .unset, iv 23, iv 0]) rfl (XS.iload X0.here hx rfl (D d21_14) rfl (XS.ifNo X0.here hx rfl (D d21_16) rfl ((if0 _ _).trans (teq (by decide : (0 : Int32) = (0 : Int32))).2) (XS.iloadN X0.here hx rfl (D d21_19) rfl (XS.ineg X0.here hx rfl (D d21_20) rfl (XS.istoreN X0.here hx rfl (D d21_21) rfl (l' := #[iv (-50 : Int32), iv 23, rv va, .unset, .unset, iv 23, iv 0]) rfl (XS.iloadN X0.here hx rfl (D d21_22) rfl (XS.bipush X0.here hx rfl (D d21_23) (XS.icmpYes X0.here hx rfl (pc0 := 25) (pc' := 72) rfl (D d21_25) rfl (tlt (by decide : (-100 : Int32) < (-50 : Int32))).2.2.1 (by decide) (by decide) (XS.aloadN X0.here hx rfl (D d21_72) rfl rfl (XS.iinc X0.here hx rfl (D d21_73) rfl (l' := #[iv (-50 : Int32), iv 23, rv va, .unset, .unset, iv 22, iv 0]) rfl (XS.iload X0.here hx rfl (D d21_76) rfl (st277 _ (XS.iloadN X277.here hx rfl (D d21_81) rfl (XS.ineg X277.here hx rfl (D d21_82) rfl (X277.baloadBytes hx (j := (50 : Int32)) (v := (.int 48)) (by rw [e277]; exact A278.1) (State.isArrayOf_alike hZ.alike A278.2.1) A278.2.2 hin278 GD_s_DigitOnes_50 (g := (mkF m 83 #[iv (-50 : Int32), iv 23, rv va, .unset, .unset, iv 22, iv 0] [(.int 50), (.ref (A 6)), (.int 22), (.ref va)])) rfl rfl (D d21_83) _ (st279 _ (XS.iloadN X279.here hx rfl (D d21_85) rfl (XS.bipush X279.here hx rfl (D d21_86) k)))))))))))))))))))))))) ?_
  obtain ⟨T282, X282, e282, st282⟩ := getS2 X279 hx hZ hown (host := "") (Or.inl (own_w hw (i := 140) rfl)) Via.refl e279 (Sta.ext O280 S_DigitTens) (g := (mkF m 97 #[iv (-50 : Int32), iv 23, rv va, .unset, .unset, iv 21, iv 0] [(.int 21), (.ref va)])) rfl (D d21_97)
  have A283 := Arr.ext O280 AD_s_DigitTens
  have hin283 : ¬ ((50 : Int32) < 0 ∨ ((KC 3)).slots.size ≤ ((50 : Int32)).toNatClampNeg) := by rw [ZD_s_DigitTens]; decide
  obtain ⟨cl284, Ar284, qk284, S284, Ng284, H284, G284⟩ := id f279
  obtain ⟨T284, h284, X284, e284, W284, st284⟩ := stB X282 hx hZ e282 Ar284 (j := (21 : Int32)) (inb_of S284 ⟨by decide, by decide⟩) (g := (mkF m 103 #[iv (-50 : Int32), iv 23, rv va, .unset, .unset, iv 21, iv 0] [(.int 53), (.int 21), (.ref va)])) rfl rfl (D d21_103)
  have O285 := Old0.wr O280 W284 prem2
  have K285 := Keep.wr K280 W284 (Or.inl (List.mem_of_getElem? (i := 0) rfl))
  have f284 : Arv Z h284 va kv .byte (34 : Int32) ((((bs ++ [(0 : Int32), (0 : Int32)]).map Value.int).set 22 (.int 48)).set 21 (.int 53)) (.int 0) := Arv.set Ar284 qk284 S284 Ng284 H284 G284 (v := (.int 53)) (by decide) W284 21 rfl (by simp [prem0])
  have N284 := Fr.snoc X284 N279 prem2
  have fe286 : Arv Z h284 va kv .byte (34 : Int32) ((bs ++ [(53 : Int32), (48 : Int32)]).map Value.int) (.int 0) := own_set2 bs 21 prem0 (53 : Int32) (48 : Int32) ▸ f284
  refine Go.of (T' := T284) (f' := (mkF m 120 #[iv (-50 : Int32), iv 23, rv va, .unset, .unset, iv 21, iv 0] [(.int 21)])) (fun _ k => XS.icmpNo X279.here hx rfl (D d21_88) rfl (tlt (by decide : (-50 : Int32) < (-9 : Int32))).2.1 (XS.aloadN X279.here hx rfl (D d21_91) rfl rfl (XS.iinc X279.here hx rfl (D d21_92) rfl (l' := #[iv (-50 : Int32), iv 23, rv va, .unset, .unset, iv 21, iv 0]) rfl (XS.iload X279.here hx rfl (D d21_95) rfl (st282 _ (XS.iloadN X282.here hx rfl (D d21_100) rfl (XS.ineg X282.here hx rfl (D d21_101) rfl (X282.baloadBytes hx (j := (50 : Int32)) (v := (.int 53)) (by rw [e282]; exact A283.1) (State.isArrayOf_alike hZ.alike A283.2.1) A283.2.2 hin283 GD_s_DigitTens_50 (g := (mkF m 102 #[iv (-50 : Int32), iv 23, rv va, .unset, .unset, iv 21, iv 0] [(.int 50), (.ref (A 7)), (.int 21), (.ref va)])) rfl rfl (D d21_102) _ (st284 _ (XS.iload X284.here hx rfl (D d21_104) rfl (XS.ifYes X284.here hx rfl (pc0 := 106) (pc' := 118) rfl (D d21_106) rfl ((if0 _ _).trans (teq (by decide : (0 : Int32) = (0 : Int32))).1) (by decide) (by decide) (XS.iload X284.here hx rfl (D d21_118) rfl k)))))))))))) ?_
  exact Go.retI X284 hx hlk hret (D d21_120) (by decide) (by decide) (by rw [e284]; exact ⟨rfl, N284, K285, fe286⟩)
theorem ef_rm_abi_50_21_34 (m : MethodId) (ob : Addr) : entryFrame m #[(.ref ob), (.int (50 : Int32))] 4 = mkF m 0 #[rv ob, iv (50 : Int32), .unset, .unset] [] := by first | (simp [entryFrame, mkF, argsToLocals, Value.category]; done) | rfl
set_option maxRecDepth 65536 in
set_option maxHeartbeats 40000000 in
theorem rm_abi_50_21_34 {l : Launch} {Z : State} {a0 : Array Value} {A : Nat → Addr} {KC : Nat → Cell} {IC : Nat → Int32} {VC : Nat → Value} (hw : ∀ d ∈ tables_1, d.before a0 Z = true) (G : own_Ctx Z A KC IC VC) (ob : Addr) (va : Addr) (kv : ClassId) (bs : List Int32) (h0 : Heap) (O0 : Ext Z.heap h0) (prem0 : bs.length = 21) (prem1 : Exa Z h0 ob "java/lang/StringBuilder") (prem2 : Fld Z h0 ob "java/lang/AbstractStringBuilder" "value" "[B" (.ref va)) (prem3 : Fld Z h0 ob "java/lang/AbstractStringBuilder" "coder" "B" (.int (0 : Int32))) (prem4 : Fld Z h0 ob "java/lang/AbstractStringBuilder" "count" "I" (.int (21 : Int32))) (prem5 : Arv Z h0 va kv .byte (34 : Int32) (bs.map Value.int) (.int (0 : Int32))) (prem6 : Z.heap.size ≤ ob) (prem7 : Z.heap.size ≤ va) (prem8 : ob ≠ va) :
    Ok l Z own_m54 jdk_68_method_32_code 4 (some (.object "java/lang/AbstractStringBuilder")) ({ frames := 1, cells := 0, slots := 0, locals := 18 } : Room) #[(.ref ob), (.int (50 : Int32))] h0
      (fun v h L => v = some (.ref ob) ∧ (Fr Z.heap.size L) ∧ (Keep h0 h [ob, va]) ∧ (Fld Z h ob "java/lang/AbstractStringBuilder" "value" "[B" (.ref va)) ∧ (Fld Z h ob "java/lang/AbstractStringBuilder" "coder" "B" (.int (0 : Int32))) ∧ (Fld Z h ob "java/lang/AbstractStringBuilder" "count" "I" (.int (23 : Int32))) ∧ (Arv Z h va kv .byte (34 : Int32) ((bs ++ [(53 : Int32), (48 : Int32)]).map Value.int) (.int (0 : Int32)))) := by
  refine Ok.mk pn55 ?_
  intro p e s m below meth c T0 hx hby hml hown hnm hret hlk hZ e0 X0
  refine Go.cast (ef_rm_abi_50_21_34 m ob) ?_
  have D := @hb _ _ hby
  have N0 := Fr.nil Z.heap.size
  have K0 : Keep h0 h0 [ob, va] := Keep.refl _ _
  obtain ⟨T288, X288, e288, st288⟩ := getF X0 hx hZ hown (host := "") (Or.inl (own_w hw (i := 60) rfl)) Via.refl e0 prem4 (g := (mkF m 1 #[rv ob, iv 50, .unset, .unset] [(.ref ob)])) rfl rfl (D d13_1)
  obtain ⟨T289, v289, L289, X289, q289, st289⟩ := callSt X288 hx hZ (y := own_m12) hown (own_w hw (i := 101) rfl) (own_w hw (i := 102) rfl) (own_w hw (i := 103) rfl) (own_w hw (i := 104) rfl) (by decide) (rm_ss_50 hw G   h0 O0 ) e288 (W := 1) (by decide) (by decide) (by decide) (by decide) (g := (mkF m 7 #[rv ob, iv 50, iv 21, .unset] [(.int 50), (.int 21)])) rfl (by rw [hml]; rfl) (argsL := [(.int 50)]) (rest := [(.int 21)]) (lenOf pd48 rfl) rfl rfl (Nat.le_of_eq rfl) (D d13_7)
  obtain ⟨rfl, e289, rfl⟩ := q289
  have N289 := Fr.app N0 (Fr.nil _)
  obtain ⟨T290, v290, L290, X290, q290, st290⟩ := callPr X289 hx hZ (y := own_m23) hown (own_w hw (i := 62) rfl) (own_w hw (i := 63) rfl) (own_selfsel (own_w hw (i := 63) rfl) (own_w hw (i := 65) rfl) (own_w hw (i := 64) rfl) (by decide)) (own_w hw (i := 64) rfl) (own_w hw (i := 26) rfl) (own_w hw (i := 66) rfl) (by decide) (rm_ecf_23_34 hw G ob va kv bs h0 O0 prem1 prem2 prem3 prem5) e289 (W := 0) (by decide) (by decide) (by decide) (by decide) prem1 (g := (mkF m 14 #[rv ob, iv 50, iv 21, iv 23] [(.int 23), (.ref ob)])) rfl (by rw [hml]; rfl) (a := ob) (argsL := [(.int 23)]) (rest := []) (lenOf pd2 rfl) rfl rfl (Nat.le_of_eq rfl) (D d13_14)
  obtain ⟨rfl, e290, rfl⟩ := q290
  have N290 := Fr.app N289 (Fr.nil _)
  obtain ⟨T291, v291, L291, X291, q291, st291⟩ := callVi X290 hx hZ (y := own_m14) (z := own_m14) hown (own_w hw (i := 128) rfl) (own_w hw (i := 129) rfl) (notFace_of_selects (args := #[]) (mvT hZ (own_w hw (i := 131) rfl))) (own_w hw (i := 131) rfl) (own_w hw (i := 130) rfl) (own_w hw (i := 132) rfl) (own_w hw (i := 26) rfl) (by decide) (rm_lat hw G ob  h0 O0 prem3) e290 (W := 0) (by decide) (by decide) (by decide) (by decide) prem1 (g := (mkF m 18 #[rv ob, iv 50, iv 21, iv 23] [(.ref ob)])) rfl (by rw [hml]; rfl) (argsL := []) (rest := []) (lenOf pd52 rfl) rfl rfl (Nat.le_of_eq rfl) (D d13_18)
  obtain ⟨rfl, e291, rfl⟩ := q291
  have N291 := Fr.app N290 (Fr.nil _)
  obtain ⟨T293, X293, e293, st293⟩ := getF X291 hx hZ hown (host := "") (Or.inl (own_w hw (i := 32) rfl)) Via.refl e291 prem2 (g := (mkF m 27 #[rv ob, iv 50, iv 21, iv 23] [(.ref ob), (.int 23), (.int 50)])) rfl rfl (D d13_27)
  obtain ⟨T294, v294, L294, X294, q294, st294⟩ := callSt X293 hx hZ (y := own_m50) hown (own_w hw (i := 133) rfl) (own_w hw (i := 134) rfl) (own_w hw (i := 103) rfl) (own_w hw (i := 135) rfl) (by decide) (rm_gch_50_21_34 hw G va kv bs h0 O0 (prem0) prem5 prem7) e293 (W := 0) (by decide) (by decide) (by decide) (by decide) (g := (mkF m 30 #[rv ob, iv 50, iv 21, iv 23] [(.ref va), (.int 23), (.int 50)])) rfl (by rw [hml]; rfl) (argsL := [(.int 50), (.int 23), (.ref va)]) (rest := []) (lenOf pd53 rfl) rfl rfl (Nat.le_of_eq rfl) (D d13_30)
  obtain ⟨rfl, N294q, K294q, p294_0⟩ := q294
  have N294 := Fr.app N291 N294q
  have O295 := Old0.keep O0 K294q (allS prem7 all0)
  have K295 := Keep.trans K0 K294q (allS (Or.inl (List.mem_of_getElem? (i := 1) rfl)) all0)
  have f297 : Exa Z T294.heap ob "java/lang/StringBuilder" := (Exa.keep prem1 K294q)
  have f298 : Fld Z T294.heap ob "java/lang/AbstractStringBuilder" "count" "I" (.int 21) := (Fld.keep prem4 K294q (ninS prem8 nin0))
  obtain ⟨T296, h296, X296, e296, W296, st296⟩ := putF X294 hx hZ hown (host := "") (Or.inl (own_w hw (i := 60) rfl)) Via.refl rfl f298 f297 (Or.inl (own_w hw (i := 61) rfl)) (own_w hw (i := 17) rfl) (ty := .int) (by decide) rfl rfl (g := (mkF m 50 #[rv ob, iv 50, iv 21, iv 23] [(.int 23), (.ref ob)])) rfl rfl (D d13_50)
  have O299 := Old0.wr O295 W296 prem6
  have K299 := Keep.wr K295 W296 (Or.inl (List.mem_of_getElem? (i := 0) rfl))
  have N296 := Fr.snoc X296 N294 prem6
  have f296 : Fld Z h296 ob "java/lang/AbstractStringBuilder" "count" "I" (.int 23) := Fld.same W296 f298
  refine Go.of (T' := T296) (f' := (mkF m 53 #[rv ob, iv 50, iv 21, iv 23] [])) (fun _ k => XS.aloadN X0.here hx rfl (D d13_0) rfl rfl (st288 _ (XS.istoreN X288.here hx rfl (D d13_4) rfl (l' := #[rv ob, iv 50, iv 21, .unset]) rfl (XS.iloadN X288.here hx rfl (D d13_5) rfl (XS.iloadN X288.here hx rfl (D d13_6) rfl (st289 _ (XS.iadd X289.here hx rfl (D d13_10) rfl (XS.istoreN X289.here hx rfl (D d13_11) rfl (l' := #[rv ob, iv 50, iv 21, iv 23]) rfl (XS.aloadN X289.here hx rfl (D d13_12) rfl rfl (XS.iloadN X289.here hx rfl (D d13_13) rfl (st290 _ (XS.aloadN X290.here hx rfl (D d13_17) rfl rfl (st291 _ (XS.ifNo X291.here hx rfl (D d13_21) rfl ((if0 _ _).trans (feq (by decide : ¬ ((1 : Int32) = (0 : Int32)))).1) (XS.iloadN X291.here hx rfl (D d13_24) rfl (XS.iloadN X291.here hx rfl (D d13_25) rfl (XS.aloadN X291.here hx rfl (D d13_26) rfl rfl (st293 _ (st294 _ (XT.pop X294.here hx rfl (D d13_33) rfl rfl (XS.goto X294.here hx rfl (pc0 := 34) (pc' := 48) rfl (D d13_34) (by decide) (by decide) (XS.aloadN X294.here hx rfl (D d13_48) rfl rfl (XS.iloadN X294.here hx rfl (D d13_49) rfl (st296 _ k)))))))))))))))))))))))) ?_
  have f300 : Fld Z h296 ob "java/lang/AbstractStringBuilder" "value" "[B" (.ref va) := (Fld.other W296 (Fld.keep prem2 K294q (ninS prem8 nin0)) (Or.inr (slot_ne (Or.inl (own_w hw (i := 33) rfl)) (Or.inl (own_w hw (i := 61) rfl)) (by decide) (t := (.array .byte)) (t' := .int) (by decide) (by decide))))
  have f301 : Fld Z h296 ob "java/lang/AbstractStringBuilder" "coder" "B" (.int 0) := (Fld.other W296 (Fld.keep prem3 K294q (ninS prem8 nin0)) (Or.inr (slot_ne (Or.inl (own_w hw (i := 35) rfl)) (Or.inl (own_w hw (i := 61) rfl)) (by decide) (t := .byte) (t' := .int) (by decide) (by decide))))
  have f302 : Arv Z h296 va kv .byte (34 : Int32) ((bs ++ [(53 : Int32), (48 : Int32)]).map Value.int) (.int 0) := (Arv.other p294_0 W296 (Ne.symm prem8))
  refine Go.of (T' := T296) (f' := (mkF m 54 #[rv ob, iv 50, iv 21, iv 23] [(.ref ob)])) (fun _ k => XS.aloadN X296.here hx rfl (D d13_53) rfl rfl k) ?_
  exact Go.retA X296 hx hlk hret rfl rfl (D d13_54) (by decide) (by decide) (by rw [e296]; exact ⟨rfl, N296, K299, f300, f301, f296, f302⟩)
theorem ef_rm_sbi_50_21_34 (m : MethodId) (ob : Addr) : entryFrame m #[(.ref ob), (.int (50 : Int32))] 2 = mkF m 0 #[rv ob, iv (50 : Int32)] [] := by first | (simp [entryFrame, mkF, argsToLocals, Value.category]; done) | rfl
set_option maxRecDepth 65536 in
set_option maxHeartbeats 40000000 in
theorem rm_sbi_50_21_34 {l : Launch} {Z : State} {a0 : Array Value} {A : Nat → Addr} {KC : Nat → Cell} {IC : Nat → Int32} {VC : Nat → Value} (hw : ∀ d ∈ tables_1, d.before a0 Z = true) (G : own_Ctx Z A KC IC VC) (ob : Addr) (va : Addr) (kv : ClassId) (bs : List Int32) (h0 : Heap) (O0 : Ext Z.heap h0) (prem0 : bs.length = 21) (prem1 : Exa Z h0 ob "java/lang/StringBuilder") (prem2 : Fld Z h0 ob "java/lang/AbstractStringBuilder" "value" "[B" (.ref va)) (prem3 : Fld Z h0 ob "java/lang/AbstractStringBuilder" "coder" "B" (.int (0 : Int32))) (prem4 : Fld Z h0 ob "java/lang/AbstractStringBuilder" "count" "I" (.int (21 : Int32))) (prem5 : Arv Z h0 va kv .byte (34 : Int32) (bs.map Value.int) (.int (0 : Int32))) (prem6 : Z.heap.size ≤ ob) (prem7 : Z.heap.size ≤ va) (prem8 : ob ≠ va) :
    Ok l Z own_m57 jdk_67_method_15_code 2 (some (.object "java/lang/StringBuilder")) ({ frames := 2, cells := 0, slots := 0, locals := 33 } : Room) #[(.ref ob), (.int (50 : Int32))] h0
      (fun v h L => v = some (.ref ob) ∧ (Fr Z.heap.size L) ∧ (Keep h0 h [ob, va]) ∧ (Fld Z h ob "java/lang/AbstractStringBuilder" "value" "[B" (.ref va)) ∧ (Fld Z h ob "java/lang/AbstractStringBuilder" "coder" "B" (.int (0 : Int32))) ∧ (Fld Z h ob "java/lang/AbstractStringBuilder" "count" "I" (.int (23 : Int32))) ∧ (Arv Z h va kv .byte (34 : Int32) ((bs ++ [(53 : Int32), (48 : Int32)]).map Value.int) (.int (0 : Int32)))) := by
  refine Ok.mk pn58 ?_
  intro p e s m below meth c T0 hx hby hml hown hnm hret hlk hZ e0 X0
  refine Go.cast (ef_rm_sbi_50_21_34 m ob) ?_
  have D := @hb _ _ hby
  have N0 := Fr.nil Z.heap.size
  have K0 : Keep h0 h0 [ob, va] := Keep.refl _ _
  obtain ⟨T303, v303, L303, X303, q303, st303⟩ := callSu X0 hx hZ (y := own_m54) hown (own_w hw (i := 97) rfl) (nf_mate (own_w hw (i := 65) rfl) rfl) (own_w hw (i := 98) rfl) (own_w hw (i := 44) rfl) (by decide) (own_w hw (i := 100) rfl) (own_w hw (i := 26) rfl) (by decide) (rm_abi_50_21_34 hw G ob va kv bs h0 O0 (prem0) prem1 prem2 prem3 prem4 prem5 prem6 prem7 prem8) e0 (W := 0) (by decide) (by decide) (by decide) (by decide) (Ins.self prem1) (g := (mkF m 2 #[rv ob, iv 50] [(.int 50), (.ref ob)])) rfl (by rw [hml]; rfl) (argsL := [(.int 50)]) (rest := []) (lenOf pd56 rfl) rfl rfl (Nat.le_of_eq rfl) (D d12_2)
  obtain ⟨rfl, N303q, K303q, p303_0, p303_1, p303_2, p303_3⟩ := q303
  have N303 := Fr.app N0 N303q
  have O304 := Old0.keep O0 K303q (allS prem6 (allS prem7 all0))
  have K304 := Keep.trans K0 K303q (allS (Or.inl (List.mem_of_getElem? (i := 0) rfl)) (allS (Or.inl (List.mem_of_getElem? (i := 1) rfl)) all0))
  refine Go.of (T' := T303) (f' := (mkF m 7 #[rv ob, iv 50] [(.ref ob)])) (fun _ k => XS.aloadN X0.here hx rfl (D d12_0) rfl rfl (XS.iloadN X0.here hx rfl (D d12_1) rfl (st303 _ (XT.pop X303.here hx rfl (D d12_5) rfl rfl (XS.aloadN X303.here hx rfl (D d12_6) rfl rfl k))))) ?_
  exact Go.retA X303 hx hlk hret rfl rfl (D d12_7) (by decide) (by decide) ⟨rfl, N303, K304, p303_0, p303_1, p303_2, p303_3⟩
theorem ef_rm_max_23_36 (m : MethodId)  : entryFrame m #[(.int (23 : Int32)), (.int (36 : Int32))] 2 = mkF m 0 #[iv (23 : Int32), iv (36 : Int32)] [] := by first | (simp [entryFrame, mkF, argsToLocals, Value.category]; done) | rfl
set_option maxRecDepth 65536 in
set_option maxHeartbeats 40000000 in
theorem rm_max_23_36 {l : Launch} {Z : State} {a0 : Array Value} {A : Nat → Addr} {KC : Nat → Cell} {IC : Nat → Int32} {VC : Nat → Value} (hw : ∀ d ∈ tables_1, d.before a0 Z = true) (G : own_Ctx Z A KC IC VC)   (h0 : Heap) (O0 : Ext Z.heap h0)  :
    Ok l Z own_m38 jdk_29_method_65_code 2 (some .int) ({ frames := 0, cells := 0, slots := 0, locals := 0 } : Room) #[(.int (23 : Int32)), (.int (36 : Int32))] h0
      (fun v h L => v = some (.int (36 : Int32)) ∧ (h = h0) ∧ (L = [])) := by
  refine Ok.mk pn_java_lang_Math_max__II_I ?_
  intro p e s m below meth c T0 hx hby hml hown hnm hret hlk hZ e0 X0
  refine Go.cast (ef_rm_max_23_36 m ) ?_
  have D := @hb _ _ hby
  have N0 := Fr.nil Z.heap.size
  have K0 : Keep h0 h0 [] := Keep.refl _ _
  refine Go.of (T' := T0) (f' := (mkF m 10 #[iv 23, iv 36] [(.int 36)])) (fun _ k => XS.iloadN X0.here hx rfl (D d17_0) rfl (XS.iloadN X0.here hx rfl (D d17_1) rfl (XS.icmpYes X0.here hx rfl (pc0 := 2) (pc' := 9) rfl (D d17_2) rfl (tlt (by decide : (23 : Int32) < (36 : Int32))).1 (by decide) (by decide) (XS.iloadN X0.here hx rfl (D d17_9) rfl k)))) ?_
  exact Go.retI X0 hx hlk hret (D d17_10) (by decide) (by decide) (by rw [e0]; exact ⟨rfl, rfl, by simp⟩)
theorem ef_rm_nlen_34_23_36 (m : MethodId)  : entryFrame m #[(.int (34 : Int32)), (.int (23 : Int32)), (.int (36 : Int32))] 4 = mkF m 0 #[iv (34 : Int32), iv (23 : Int32), iv (36 : Int32), .unset] [] := by first | (simp [entryFrame, mkF, argsToLocals, Value.category]; done) | rfl
set_option maxRecDepth 65536 in
set_option maxHeartbeats 40000000 in
theorem rm_nlen_34_23_36 {l : Launch} {Z : State} {a0 : Array Value} {A : Nat → Addr} {KC : Nat → Cell} {IC : Nat → Int32} {VC : Nat → Value} (hw : ∀ d ∈ tables_1, d.before a0 Z = true) (G : own_Ctx Z A KC IC VC)   (h0 : Heap) (O0 : Ext Z.heap h0)  :
    Ok l Z own_m40 jdk_48_method_27_code 4 (some .int) ({ frames := 1, cells := 0, slots := 0, locals := 14 } : Room) #[(.int (34 : Int32)), (.int (23 : Int32)), (.int (36 : Int32))] h0
      (fun v h L => v = some (.int (70 : Int32)) ∧ (h = h0) ∧ (L = [])) := by
  refine Ok.mk pn41 ?_
  intro p e s m below meth c T0 hx hby hml hown hnm hret hlk hZ e0 X0
  refine Go.cast (ef_rm_nlen_34_23_36 m ) ?_
  have D := @hb _ _ hby
  have N0 := Fr.nil Z.heap.size
  have K0 : Keep h0 h0 [] := Keep.refl _ _
  obtain ⟨T306, v306, L306, X306, q306, st306⟩ := callSt X0 hx hZ (y := own_m38) hown (own_w hw (i := 114) rfl) (own_w hw (i := 115) rfl) (own_w hw (i := 116) rfl) (own_w hw (i := 117) rfl) (by decide) (rm_max_23_36 hw G   h0 O0 ) e0 (W := 1) (by decide) (by decide) (by decide) (by decide) (g := (mkF m 3 #[iv 34, iv 23, iv 36, .unset] [(.int 36), (.int 23), (.int 34)])) rfl (by rw [hml]; rfl) (argsL := [(.int 23), (.int 36)]) (rest := [(.int 34)]) (lenOf pd39 rfl) rfl rfl (Nat.le_of_eq rfl) (D d16_3)
  obtain ⟨rfl, e306, rfl⟩ := q306
  have N306 := Fr.app N0 (Fr.nil _)
  refine Go.of (T' := T306) (f' := (mkF m 20 #[iv 34, iv 23, iv 36, iv 70] [(.int 70)])) (fun _ k => XS.iloadN X0.here hx rfl (D d16_0) rfl (XS.iloadN X0.here hx rfl (D d16_1) rfl (XS.iloadN X0.here hx rfl (D d16_2) rfl (st306 _ (XS.iadd X306.here hx rfl (D d16_6) rfl (XS.istoreN X306.here hx rfl (D d16_7) rfl (l' := #[iv 34, iv 23, iv 36, iv 70]) rfl (XS.iconst X306.here hx rfl (D d16_8) (XS.iloadN X306.here hx rfl (D d16_9) rfl (XS.icmpNo X306.here hx rfl (D d16_10) rfl (tlt (by decide : (0 : Int32) < (70 : Int32))).2.1 (XS.iloadN X306.here hx rfl (D d16_13) rfl (X306.ldcInt hx hown (mvT hZ (own_w hw (i := 118) rfl)) (g := (mkF m 14 #[iv 34, iv 23, iv 36, iv 70] [(.int 70)])) rfl (D d16_14) _ (XS.icmpNo X306.here hx rfl (D d16_16) rfl (flt (by decide : ¬ ((2147483639 : Int32) < (70 : Int32)))).2.2.1 (XS.iloadN X306.here hx rfl (D d16_19) rfl k))))))))))))) ?_
  exact Go.retI X306 hx hlk hret (D d16_20) (by decide) (by decide) (by rw [e306]; exact ⟨rfl, rfl, by simp⟩)
theorem ef_rm_ncap_57_34 (m : MethodId) (ob : Addr) : entryFrame m #[(.ref ob), (.int (57 : Int32))] 6 = mkF m 0 #[rv ob, iv (57 : Int32), .unset, .unset, .unset, .unset] [] := by first | (simp [entryFrame, mkF, argsToLocals, Value.category]; done) | rfl
set_option maxRecDepth 65536 in
set_option maxHeartbeats 40000000 in
theorem rm_ncap_57_34 {l : Launch} {Z : State} {a0 : Array Value} {A : Nat → Addr} {KC : Nat → Cell} {IC : Nat → Int32} {VC : Nat → Value} (hw : ∀ d ∈ tables_1, d.before a0 Z = true) (G : own_Ctx Z A KC IC VC) (ob : Addr) (va : Addr) (kv : ClassId) (bs : List Int32) (h0 : Heap) (O0 : Ext Z.heap h0) (prem0 : Exa Z h0 ob "java/lang/StringBuilder") (prem1 : Fld Z h0 ob "java/lang/AbstractStringBuilder" "value" "[B" (.ref va)) (prem2 : Fld Z h0 ob "java/lang/AbstractStringBuilder" "coder" "B" (.int (0 : Int32))) (prem3 : Arv Z h0 va kv .byte (34 : Int32) (bs.map Value.int) (.int (0 : Int32))) :
    Ok l Z own_m43 jdk_68_method_10_code 6 (some .int) ({ frames := 2, cells := 0, slots := 0, locals := 29 } : Room) #[(.ref ob), (.int (57 : Int32))] h0
      (fun v h L => v = some (.int (70 : Int32)) ∧ (h = h0) ∧ (L = [])) := by
  refine Ok.mk pn44 ?_
  intro p e s m below meth c T0 hx hby hml hown hnm hret hlk hZ e0 X0
  refine Go.cast (ef_rm_ncap_57_34 m ob) ?_
  have D := @hb _ _ hby
  have N0 := Fr.nil Z.heap.size
  have K0 : Keep h0 h0 [] := Keep.refl _ _
  obtain ⟨T309, X309, e309, st309⟩ := getF X0 hx hZ hown (host := "") (Or.inl (own_w hw (i := 32) rfl)) Via.refl e0 prem1 (g := (mkF m 1 #[rv ob, iv 57, .unset, .unset, .unset, .unset] [(.ref ob)])) rfl rfl (D d15_1)
  obtain ⟨cl310, Ar310, qk310, S310, Ng310, H310, G310⟩ := id prem3
  obtain ⟨T311, X311, e311, st311⟩ := getF X309 hx hZ hown (host := "") (Or.inl (own_w hw (i := 34) rfl)) Via.refl e309 prem2 (g := (mkF m 8 #[rv ob, iv 57, iv 34, .unset, .unset, .unset] [(.ref ob), (.int 57)])) rfl rfl (D d15_8)
  obtain ⟨T312, X312, e312, st312⟩ := getF X311 hx hZ hown (host := "") (Or.inl (own_w hw (i := 34) rfl)) Via.refl e311 prem2 (g := (mkF m 24 #[rv ob, iv 57, iv 34, iv 57, iv 23, .unset] [(.ref ob), (.int 2), (.int 34), (.int 23), (.int 34)])) rfl rfl (D d15_24)
  obtain ⟨T313, v313, L313, X313, q313, st313⟩ := callSt X312 hx hZ (y := own_m40) hown (own_w hw (i := 110) rfl) (own_w hw (i := 111) rfl) (own_w hw (i := 112) rfl) (own_w hw (i := 113) rfl) (by decide) (rm_nlen_34_23_36 hw G   h0 O0 ) e312 (W := 0) (by decide) (by decide) (by decide) (by decide) (g := (mkF m 29 #[rv ob, iv 57, iv 34, iv 57, iv 23, .unset] [(.int 36), (.int 23), (.int 34)])) rfl (by rw [hml]; rfl) (argsL := [(.int 34), (.int 23), (.int 36)]) (rest := []) (lenOf pd42 rfl) rfl rfl (Nat.le_of_eq rfl) (D d15_29)
  obtain ⟨rfl, e313, rfl⟩ := q313
  have N313 := Fr.app N0 (Fr.nil _)
  refine Go.of (T' := T313) (f' := (mkF m 36 #[rv ob, iv 57, iv 34, iv 57, iv 23, iv 70] [(.int 70)])) (fun _ k => XS.aloadN X0.here hx rfl (D d15_0) rfl rfl (st309 _ (X309.arraylength hx (by rw [e309]; exact Ar310.1) (State.isArrayOf_alike hZ.alike Ar310.2.1) (g := (mkF m 4 #[rv ob, iv 57, .unset, .unset, .unset, .unset] [(.ref va)])) rfl rfl (D d15_4) _ (by rw [len_of S310 Ng310]; exact (XS.istoreN X309.here hx rfl (D d15_5) rfl (l' := #[rv ob, iv 57, iv 34, .unset, .unset, .unset]) rfl (XS.iloadN X309.here hx rfl (D d15_6) rfl (XS.aloadN X309.here hx rfl (D d15_7) rfl rfl (st311 _ (XS.ishl X311.here hx rfl (D d15_11) rfl (XS.istoreN X311.here hx rfl (D d15_12) rfl (l' := #[rv ob, iv 57, iv 34, iv 57, .unset, .unset]) rfl (XS.iloadN X311.here hx rfl (D d15_13) rfl (XS.iloadN X311.here hx rfl (D d15_14) rfl (XS.isub X311.here hx rfl (D d15_15) rfl (XS.istore X311.here hx rfl (D d15_16) rfl (l' := #[rv ob, iv 57, iv 34, iv 57, iv 23, .unset]) rfl (XS.iloadN X311.here hx rfl (D d15_18) rfl (XS.iload X311.here hx rfl (D d15_19) rfl (XS.iloadN X311.here hx rfl (D d15_21) rfl (XS.iconst X311.here hx rfl (D d15_22) (XS.aloadN X311.here hx rfl (D d15_23) rfl rfl (st312 _ (XS.ishl X312.here hx rfl (D d15_27) rfl (XS.iadd X312.here hx rfl (D d15_28) rfl (st313 _ (XS.istore X313.here hx rfl (D d15_32) rfl (l' := #[rv ob, iv 57, iv 34, iv 57, iv 23, iv 70]) rfl (XS.iload X313.here hx rfl (D d15_34) rfl k))))))))))))))))))))))))) ?_
  obtain ⟨T315, X315, e315, st315⟩ := getF X313 hx hZ hown (host := "") (Or.inl (own_w hw (i := 34) rfl)) Via.refl e313 prem2 (g := (mkF m 54 #[rv ob, iv 57, iv 34, iv 57, iv 23, iv 70] [(.ref ob), (.int 70)])) rfl rfl (D d15_54)
  refine Go.of (T' := T315) (f' := (mkF m 58 #[rv ob, iv 57, iv 34, iv 57, iv 23, iv 70] [(.int 70)])) (fun _ k => X313.ldcInt hx hown (mvT hZ (own_w hw (i := 119) rfl)) (g := (mkF m 36 #[rv ob, iv 57, iv 34, iv 57, iv 23, iv 70] [(.int 70)])) rfl (D d15_36) _ (XS.icmpYes X313.here hx rfl (pc0 := 38) (pc' := 51) rfl (D d15_38) rfl (feq (by decide : ¬ ((70 : Int32) = (2147483647 : Int32)))).2 (by decide) (by decide) (XS.iload X313.here hx rfl (D d15_51) rfl (XS.aloadN X313.here hx rfl (D d15_53) rfl rfl (st315 _ (XS.ishr X315.here hx rfl (D d15_57) rfl k)))))) ?_
  exact Go.retI X315 hx hlk hret (D d15_58) (by decide) (by decide) (by rw [e315]; exact ⟨rfl, rfl, by simp⟩)
theorem ef_rm_min_34_70 (m : MethodId)  : entryFrame m #[(.int (34 : Int32)), (.int (70 : Int32))] 2 = mkF m 0 #[iv (34 : Int32), iv (70 : Int32)] [] := by first | (simp [entryFrame, mkF, argsToLocals, Value.category]; done) | rfl
set_option maxRecDepth 65536 in
set_option maxHeartbeats 40000000 in
theorem rm_min_34_70 {l : Launch} {Z : State} {a0 : Array Value} {A : Nat → Addr} {KC : Nat → Cell} {IC : Nat → Int32} {VC : Nat → Value} (hw : ∀ d ∈ tables_1, d.before a0 Z = true) (G : own_Ctx Z A KC IC VC)   (h0 : Heap) (O0 : Ext Z.heap h0)  :
    Ok l Z own_m45 jdk_29_method_69_code 2 (some .int) ({ frames := 0, cells := 0, slots := 0, locals := 0 } : Room) #[(.int (34 : Int32)), (.int (70 : Int32))] h0
      (fun v h L => v = some (.int (34 : Int32)) ∧ (h = h0) ∧ (L = [])) := by
  refine Ok.mk pn_java_lang_Math_min__II_I ?_
  intro p e s m below meth c T0 hx hby hml hown hnm hret hlk hZ e0 X0
  refine Go.cast (ef_rm_min_34_70 m ) ?_
  have D := @hb _ _ hby
  have N0 := Fr.nil Z.heap.size
  have K0 : Keep h0 h0 [] := Keep.refl _ _
  refine Go.of (T' := T0) (f' := (mkF m 10 #[iv 34, iv 70] [(.int 34)])) (fun _ k => XS.iloadN X0.here hx rfl (D d19_0) rfl (XS.iloadN X0.here hx rfl (D d19_1) rfl (XS.icmpNo X0.here hx rfl (D d19_2) rfl (flt (by decide : ¬ ((70 : Int32) < (34 : Int32)))).2.2.1 (XS.iloadN X0.here hx rfl (D d19_5) rfl (XS.goto X0.here hx rfl (pc0 := 6) (pc' := 10) rfl (D d19_6) (by decide) (by decide) k))))) ?_
  exact Go.retI X0 hx hlk hret (D d19_10) (by decide) (by decide) (by rw [e0]; exact ⟨rfl, rfl, by simp⟩)
theorem ef_rm_cof_23_34_70 (m : MethodId) (va : Addr) : entryFrame m #[(.ref va), (.int (70 : Int32))] 3 = mkF m 0 #[rv va, iv (70 : Int32), .unset] [] := by first | (simp [entryFrame, mkF, argsToLocals, Value.category]; done) | rfl
set_option maxRecDepth 65536 in
set_option maxHeartbeats 40000000 in
theorem rm_cof_23_34_70 {l : Launch} {Z : State} {a0 : Array Value} {A : Nat → Addr} {KC : Nat → Cell} {IC : Nat → Int32} {VC : Nat → Value} (hw : ∀ d ∈ tables_1, d.before a0 Z = true) (G : own_Ctx Z A KC IC VC) (va : Addr) (kv : ClassId) (bs : List Int32) (h0 : Heap) (O0 : Ext Z.heap h0) (prem0 : bs.length = 23) (prem1 : Arv Z h0 va kv .byte (34 : Int32) (bs.map Value.int) (.int (0 : Int32))) :
    Ok l Z own_m46 jdk_65_method_121_code 3 (some (.array .byte)) ({ frames := 1, cells := 1, slots := 70, locals := 18 } : Room) #[(.ref va), (.int (70 : Int32))] h0
      (fun v h L => ∃ vb : Addr, ∃ kb : ClassId, v = some (.ref vb) ∧ (Fr Z.heap.size L) ∧ (Keep h0 h []) ∧ (h0.size ≤ vb) ∧ (Arv Z h vb kb .byte (70 : Int32) (bs.map Value.int) (.int (0 : Int32))) ∧ (Exa Z h vb "[B")) := by
  refine Ok.mk pn47 ?_
  intro p e s m below meth c T0 hx hby hml hown hnm hret hlk hZ e0 X0
  refine Go.cast (ef_rm_cof_23_34_70 m va) ?_
  have D := @hb _ _ hby
  have N0 := Fr.nil Z.heap.size
  have K0 : Keep h0 h0 [] := Keep.refl _ _
  obtain ⟨cl317, Ar317, qk317, S317, Ng317, H317, G317⟩ := id prem1
  obtain ⟨T319, h319, k319, b319, q319, X319, e319, E319, V319, A319, st319⟩ := newAr X0 hx hZ (own_w hw (i := 6) rfl) e0 (g := (mkF m 15 #[rv va, iv 70, .unset] [(.int 70)])) rfl (D d18_15) rfl (by decide) (cap := 70) (by decide) (by decide) (by decide) (by decide) (ad := "[B") (by decide)
  have O320 := Old0.ext O0 E319
  have K320 := Keep.ext K0 E319
  have g_b319 : Z.heap.size ≤ b319 := q319 ▸ O0.1
  have z_b319 : h0.size ≤ b319 := q319 ▸ K0.1
  have ne_va_b319 : va ≠ b319 := q319 ▸ Nat.ne_of_lt prem1.lt
  have f321 : Arv Z h319 b319 k319 .byte (70 : Int32) [(.int 0), (.int 0), (.int 0), (.int 0), (.int 0), (.int 0), (.int 0), (.int 0), (.int 0), (.int 0), (.int 0), (.int 0), (.int 0), (.int 0), (.int 0), (.int 0), (.int 0), (.int 0), (.int 0), (.int 0), (.int 0), (.int 0), (.int 0), (.int 0), (.int 0), (.int 0), (.int 0), (.int 0), (.int 0), (.int 0), (.int 0), (.int 0), (.int 0), (.int 0), (.int 0), (.int 0), (.int 0), (.int 0), (.int 0), (.int 0), (.int 0), (.int 0), (.int 0), (.int 0), (.int 0), (.int 0), (.int 0), (.int 0), (.int 0), (.int 0), (.int 0), (.int 0), (.int 0), (.int 0), (.int 0), (.int 0), (.int 0), (.int 0), (.int 0), (.int 0), (.int 0), (.int 0), (.int 0), (.int 0), (.int 0), (.int 0), (.int 0), (.int 0), (.int 0), (.int 0)] (.int 0) := Arv.pad V319 (pad_rep [] (.int 0) 70)
  have fz322 : Arv Z h319 b319 k319 .byte (70 : Int32) (([] : List Int32).map Value.int) (.int 0) := Arv.pad f321 (fun i => (pad_rep [] (.int 0) 70 i).symm)
  have f324 : Arv Z h319 va kv .byte (34 : Int32) (bs.map Value.int) (.int 0) := (Arv.ext prem1 E319)
  obtain ⟨cl323, Ar323, qk323, S323, Ng323, H323, G323⟩ := id f324
  obtain ⟨T325, v325, L325, X325, q325, st325⟩ := callSt X319 hx hZ (y := own_m45) hown (own_w hw (i := 124) rfl) (own_w hw (i := 125) rfl) (own_w hw (i := 116) rfl) (own_w hw (i := 126) rfl) (by decide) (rm_min_34_70 hw G   h319 O320 ) e319 (W := 4) (by decide) (by decide) (by decide) (by decide) (g := (mkF m 25 #[rv va, iv 70, rv b319] [(.int 70), (.int 34), (.int 0), (.ref b319), (.int 0), (.ref va)])) rfl (by rw [hml]; rfl) (argsL := [(.int 34), (.int 70)]) (rest := [(.int 0), (.ref b319), (.int 0), (.ref va)]) (lenOf pd39 rfl) rfl rfl (Nat.le_of_eq rfl) (D d18_25)
  obtain ⟨rfl, e325, rfl⟩ := q325
  have N325 := Fr.app N0 (Fr.nil _)
  obtain ⟨T326, h326, L326, X326, e326, N326, Kq326, V326, st326⟩ := own_cpG X325 hx hZ hown (own_w hw (i := 127) rfl) (own_w hw (i := 86) rfl) (own_w hw (i := 84) rfl) (own_w hw (i := 85) rfl) e325 f324 fz322 (dp := (0 : Int32)) (nn := (34 : Int32)) (by decide) (by decide) (by decide) (by rw [prem0]; decide) (by decide) (by decide) N325 g_b319 (g := (mkF m 28 #[rv va, iv 70, rv b319] [(.int 34), (.int 0), (.ref b319), (.int 0), (.ref va)])) rfl (by rw [hml]; rfl) rfl (D d18_28) (by decide) (W := 0) (Nat.le_of_eq rfl) (by decide)
  have O327 := Old0.keep O320 Kq326 (allS g_b319 all0)
  have K327 := Keep.trans K320 Kq326 (allS (Or.inr z_b319) all0)
  have f328 : Exa Z h326 b319 "[B" := (Exa.keep A319 Kq326)
  refine Go.of (T' := T326) (f' := (mkF m 32 #[rv va, iv 70, rv b319] [(.ref b319)])) (fun _ k => XS.iloadN X0.here hx rfl (D d18_0) rfl (XS.aloadN X0.here hx rfl (D d18_1) rfl rfl (X0.arraylength hx (by rw [e0]; exact Ar317.1) (State.isArrayOf_alike hZ.alike Ar317.2.1) (g := (mkF m 2 #[rv va, iv 70, .unset] [(.ref va), (.int 70)])) rfl rfl (D d18_2) _ (by rw [len_of S317 Ng317]; exact (XS.icmpYes X0.here hx rfl (pc0 := 3) (pc' := 14) rfl (D d18_3) rfl (feq (by decide : ¬ ((70 : Int32) = (34 : Int32)))).2 (by decide) (by decide) (XS.iloadN X0.here hx rfl (D d18_14) rfl (st319 _ (XS.astoreN X319.here hx rfl (D d18_17) rfl rfl (l' := #[rv va, iv 70, rv b319]) rfl (XS.aloadN X319.here hx rfl (D d18_18) rfl rfl (XS.iconst X319.here hx rfl (D d18_19) (XS.aloadN X319.here hx rfl (D d18_20) rfl rfl (XS.iconst X319.here hx rfl (D d18_21) (XS.aloadN X319.here hx rfl (D d18_22) rfl rfl (X319.arraylength hx (by rw [e319]; exact Ar323.1) (State.isArrayOf_alike hZ.alike Ar323.2.1) (g := (mkF m 23 #[rv va, iv 70, rv b319] [(.ref va), (.int 0), (.ref b319), (.int 0), (.ref va)])) rfl rfl (D d18_23) _ (by rw [len_of S323 Ng323]; exact (XS.iloadN X319.here hx rfl (D d18_24) rfl (st325 _ (st326 _ (XS.aloadN X326.here hx rfl (D d18_31) rfl rfl k))))))))))))))))))) ?_
  exact Go.retA X326 hx hlk hret rfl rfl (D d18_32) (by decide) (by decide) (by rw [e326]; exact ⟨b319, k319, rfl, N326, K327, z_b319, V326, f328⟩)
theorem ef_rm_ecg_23_57_34 (m : MethodId) (ob : Addr) : entryFrame m #[(.ref ob), (.int (57 : Int32))] 3 = mkF m 0 #[rv ob, iv (57 : Int32), .unset] [] := by first | (simp [entryFrame, mkF, argsToLocals, Value.category]; done) | rfl
set_option maxRecDepth 65536 in
set_option maxHeartbeats 40000000 in
theorem rm_ecg_23_57_34 {l : Launch} {Z : State} {a0 : Array Value} {A : Nat → Addr} {KC : Nat → Cell} {IC : Nat → Int32} {VC : Nat → Value} (hw : ∀ d ∈ tables_1, d.before a0 Z = true) (G : own_Ctx Z A KC IC VC) (ob : Addr) (va : Addr) (kv : ClassId) (bs : List Int32) (h0 : Heap) (O0 : Ext Z.heap h0) (prem0 : bs.length = 23) (prem1 : Exa Z h0 ob "java/lang/StringBuilder") (prem2 : Fld Z h0 ob "java/lang/AbstractStringBuilder" "value" "[B" (.ref va)) (prem3 : Fld Z h0 ob "java/lang/AbstractStringBuilder" "coder" "B" (.int (0 : Int32))) (prem4 : Arv Z h0 va kv .byte (34 : Int32) (bs.map Value.int) (.int (0 : Int32))) (prem5 : Z.heap.size ≤ ob) (prem6 : Fld Z h0 ob "java/lang/AbstractStringBuilder" "count" "I" (.int (23 : Int32))) :
    Ok l Z own_m23 jdk_68_method_9_code 3 none ({ frames := 3, cells := 1, slots := 70, locals := 48 } : Room) #[(.ref ob), (.int (57 : Int32))] h0
      (fun v h L => ∃ vb : Addr, ∃ kb : ClassId, v = none ∧ (Fr Z.heap.size L) ∧ (Keep h0 h [ob]) ∧ (h0.size ≤ vb) ∧ (Fld Z h ob "java/lang/AbstractStringBuilder" "value" "[B" (.ref vb)) ∧ (Fld Z h ob "java/lang/AbstractStringBuilder" "coder" "B" (.int (0 : Int32))) ∧ (Fld Z h ob "java/lang/AbstractStringBuilder" "count" "I" (.int (23 : Int32))) ∧ (Arv Z h vb kb .byte (70 : Int32) (bs.map Value.int) (.int (0 : Int32)))) := by
  refine Ok.mk pn24 ?_
  intro p e s m below meth c T0 hx hby hml hown hnm hret hlk hZ e0 X0
  refine Go.cast (ef_rm_ecg_23_57_34 m ob) ?_
  have D := @hb _ _ hby
  have N0 := Fr.nil Z.heap.size
  have K0 : Keep h0 h0 [ob] := Keep.refl _ _
  obtain ⟨T329, X329, e329, st329⟩ := getF X0 hx hZ hown (host := "") (Or.inl (own_w hw (i := 32) rfl)) Via.refl e0 prem2 (g := (mkF m 1 #[rv ob, iv 57, .unset] [(.ref ob)])) rfl rfl (D d8_1)
  obtain ⟨cl330, Ar330, qk330, S330, Ng330, H330, G330⟩ := id prem4
  obtain ⟨T331, X331, e331, st331⟩ := getF X329 hx hZ hown (host := "") (Or.inl (own_w hw (i := 34) rfl)) Via.refl e329 prem3 (g := (mkF m 6 #[rv ob, iv 57, .unset] [(.ref ob), (.int 34)])) rfl rfl (D d8_6)
  obtain ⟨T333, X333, e333, st333⟩ := getF X331 hx hZ hown (host := "") (Or.inl (own_w hw (i := 32) rfl)) Via.refl e331 prem2 (g := (mkF m 19 #[rv ob, iv 57, iv 34] [(.ref ob), (.ref ob)])) rfl rfl (D d8_19)
  obtain ⟨T334, v334, L334, X334, q334, st334⟩ := callPr X333 hx hZ (y := own_m43) hown (own_w hw (i := 105) rfl) (own_w hw (i := 106) rfl) (own_selfsel (own_w hw (i := 106) rfl) (own_w hw (i := 108) rfl) (own_w hw (i := 107) rfl) (by decide)) (own_w hw (i := 107) rfl) (own_w hw (i := 26) rfl) (own_w hw (i := 109) rfl) (by decide) (rm_ncap_57_34 hw G ob va kv bs h0 O0 prem1 prem2 prem3 prem4) e333 (W := 2) (by decide) (by decide) (by decide) (by decide) prem1 (g := (mkF m 24 #[rv ob, iv 57, iv 34] [(.int 57), (.ref ob), (.ref va), (.ref ob)])) rfl (by rw [hml]; rfl) (a := ob) (argsL := [(.int 57)]) (rest := [(.ref va), (.ref ob)]) (lenOf pd48 rfl) rfl rfl (Nat.le_of_eq rfl) (D d8_24)
  obtain ⟨rfl, e334, rfl⟩ := q334
  have N334 := Fr.app N0 (Fr.nil _)
  obtain ⟨T335, X335, e335, st335⟩ := getF X334 hx hZ hown (host := "") (Or.inl (own_w hw (i := 34) rfl)) Via.refl e334 prem3 (g := (mkF m 28 #[rv ob, iv 57, iv 34] [(.ref ob), (.int 70), (.ref va), (.ref ob)])) rfl rfl (D d8_28)
  obtain ⟨T336, v336, L336, X336, q336, st336⟩ := callSt X335 hx hZ (y := own_m46) hown (own_w hw (i := 120) rfl) (own_w hw (i := 121) rfl) (own_w hw (i := 122) rfl) (own_w hw (i := 123) rfl) (by decide) (rm_cof_23_34_70 hw G va kv bs h0 O0 (prem0) prem4) e335 (W := 1) (by decide) (by decide) (by decide) (by decide) (g := (mkF m 32 #[rv ob, iv 57, iv 34] [(.int 70), (.ref va), (.ref ob)])) rfl (by rw [hml]; rfl) (argsL := [(.ref va), (.int 70)]) (rest := [(.ref ob)]) (lenOf pd49 rfl) rfl rfl (Nat.le_of_eq rfl) (D d8_32)
  obtain ⟨vb_336, kb_336, rfl, N336q, K336q, p336_0, p336_1, p336_2⟩ := q336
  have N336 := Fr.app N334 N336q
  have O337 := Old0.keep O0 K336q all0
  have K337 := Keep.trans K0 K336q all0
  have z_vb_336 : h0.size ≤ vb_336 := Nat.le_trans K0.1 p336_0
  have g_vb_336 : Z.heap.size ≤ vb_336 := Nat.le_trans O0.1 p336_0
  have ne_ob_vb_336 : ob ≠ vb_336 := Nat.ne_of_lt (Nat.lt_of_lt_of_le prem1.lt p336_0)
  have ne_va_vb_336 : va ≠ vb_336 := Nat.ne_of_lt (Nat.lt_of_lt_of_le prem4.lt p336_0)
  have f339 : Exa Z T336.heap ob "java/lang/StringBuilder" := (Exa.keep prem1 K336q)
  have f340 : Fld Z T336.heap ob "java/lang/AbstractStringBuilder" "value" "[B" (.ref va) := (Fld.keep prem2 K336q nin0)
  obtain ⟨T338, h338, X338, e338, W338, st338⟩ := putF X336 hx hZ hown (host := "") (Or.inl (own_w hw (i := 32) rfl)) Via.refl rfl f340 f339 (Or.inl (own_w hw (i := 33) rfl)) (own_w hw (i := 17) rfl) (ty := (.array .byte)) (by decide) rfl rfl (g := (mkF m 35 #[rv ob, iv 57, iv 34] [(.ref vb_336), (.ref ob)])) rfl rfl (D d8_35)
  have O341 := Old0.wr O337 W338 prem5
  have K341 := Keep.wr K337 W338 (Or.inl (List.mem_of_getElem? (i := 0) rfl))
  have N338 := Fr.snoc X338 N336 prem5
  have f338 : Fld Z h338 ob "java/lang/AbstractStringBuilder" "value" "[B" (.ref vb_336) := Fld.same W338 f340
  have f342 : Fld Z h338 ob "java/lang/AbstractStringBuilder" "coder" "B" (.int 0) := (Fld.other W338 (Fld.keep prem3 K336q nin0) (Or.inr (slot_ne (Or.inl (own_w hw (i := 35) rfl)) (Or.inl (own_w hw (i := 33) rfl)) (by decide) (t := .byte) (t' := (.array .byte)) (by decide) (by decide))))
  have f343 : Fld Z h338 ob "java/lang/AbstractStringBuilder" "count" "I" (.int 23) := (Fld.other W338 (Fld.keep prem6 K336q nin0) (Or.inr (slot_ne (Or.inl (own_w hw (i := 61) rfl)) (Or.inl (own_w hw (i := 33) rfl)) (by decide) (t := .int) (t' := (.array .byte)) (by decide) (by decide))))
  have f344 : Arv Z h338 vb_336 kb_336 .byte (70 : Int32) (bs.map Value.int) (.int 0) := (Arv.other p336_1 W338 (Ne.symm ne_ob_vb_336))
  refine Go.of (T' := T338) (f' := (mkF m 38 #[rv ob, iv 57, iv 34] [])) (fun _ k => XS.aloadN X0.here hx rfl (D d8_0) rfl rfl (st329 _ (X329.arraylength hx (by rw [e329]; exact Ar330.1) (State.isArrayOf_alike hZ.alike Ar330.2.1) (g := (mkF m 4 #[rv ob, iv 57, .unset] [(.ref va)])) rfl rfl (D d8_4) _ (by rw [len_of S330 Ng330]; exact (XS.aloadN X329.here hx rfl (D d8_5) rfl rfl (st331 _ (XS.ishr X331.here hx rfl (D d8_9) rfl (XS.istoreN X331.here hx rfl (D d8_10) rfl (l' := #[rv ob, iv 57, iv 34]) rfl (XS.iloadN X331.here hx rfl (D d8_11) rfl (XS.iloadN X331.here hx rfl (D d8_12) rfl (XS.isub X331.here hx rfl (D d8_13) rfl (XS.ifNo X331.here hx rfl (D d8_14) rfl ((if0 _ _).trans (tlt (by decide : (0 : Int32) < (23 : Int32))).2.2.2) (XS.aloadN X331.here hx rfl (D d8_17) rfl rfl (XS.aloadN X331.here hx rfl (D d8_18) rfl rfl (st333 _ (XS.aloadN X333.here hx rfl (D d8_22) rfl rfl (XS.iloadN X333.here hx rfl (D d8_23) rfl (st334 _ (XS.aloadN X334.here hx rfl (D d8_27) rfl rfl (st335 _ (XS.ishl X335.here hx rfl (D d8_31) rfl (st336 _ (st338 _ k))))))))))))))))))))))) ?_
  exact Go.retV X338 hx hlk hret (D d8_38) (by decide) (by decide) (by rw [e338]; exact ⟨vb_336, kb_336, rfl, N338, K341, z_vb_336, f338, f342, f343, f344⟩)
theorem ef_rm_getb_23_34_70 (m : MethodId) (so : Addr) (va : Addr) : entryFrame m #[(.ref so), (.ref va), (.int (23 : Int32)), (.int (0 : Int32))] 4 = mkF m 0 #[rv so, rv va, iv (23 : Int32), iv (0 : Int32)] [] := by first | (simp [entryFrame, mkF, argsToLocals, Value.category]; done) | rfl
set_option maxRecDepth 65536 in
set_option maxHeartbeats 40000000 in
theorem rm_getb_23_34_70 {l : Launch} {Z : State} {a0 : Array Value} {A : Nat → Addr} {KC : Nat → Cell} {IC : Nat → Int32} {VC : Nat → Value} (hw : ∀ d ∈ tables_1, d.before a0 Z = true) (G : own_Ctx Z A KC IC VC) (so : Addr) (va : Addr) (sv : Addr) (ks : ClassId) (ts : List Int32) (kv : ClassId) (bs : List Int32) (h0 : Heap) (O0 : Ext Z.heap h0) (prem0 : bs.length = 23) (prem1 : ts.length = 34) (prem2 : Exa Z h0 so "java/lang/String") (prem3 : Fld Z h0 so "java/lang/String" "value" "[B" (.ref sv)) (prem4 : Fld Z h0 so "java/lang/String" "coder" "B" (.int (0 : Int32))) (prem5 : Arv Z h0 sv ks .byte (34 : Int32) (ts.map Value.int) (.int (0 : Int32))) (prem6 : Arv Z h0 va kv .byte (70 : Int32) (bs.map Value.int) (.int (0 : Int32))) (prem7 : Z.heap.size ≤ va) :
    Ok l Z own_m25 jdk_42_method_147_code 4 none ({ frames := 1, cells := 0, slots := 0, locals := 18 } : Room) #[(.ref so), (.ref va), (.int (23 : Int32)), (.int (0 : Int32))] h0
      (fun v h L => v = none ∧ (Fr Z.heap.size L) ∧ (Keep h0 h [va]) ∧ (Arv Z h va kv .byte (70 : Int32) ((bs ++ ts).map Value.int) (.int (0 : Int32)))) := by
  refine Ok.mk pn26 ?_
  intro p e s m below meth c T0 hx hby hml hown hnm hret hlk hZ e0 X0
  refine Go.cast (ef_rm_getb_23_34_70 m so va) ?_
  have D := @hb _ _ hby
  have N0 := Fr.nil Z.heap.size
  have K0 : Keep h0 h0 [va] := Keep.refl _ _
  obtain ⟨T345, v345, L345, X345, q345, st345⟩ := callVi X0 hx hZ (y := own_m5) (z := own_m5) hown (own_w hw (i := 53) rfl) (own_w hw (i := 54) rfl) (notFace_of_selects (args := #[]) (mvT hZ (own_w hw (i := 56) rfl))) (own_w hw (i := 56) rfl) (own_w hw (i := 55) rfl) (own_w hw (i := 57) rfl) (own_w hw (i := 4) rfl) (by decide) (rm_coder hw G so  h0 O0 prem4) e0 (W := 0) (by decide) (by decide) (by decide) (by decide) prem2 (g := (mkF m 1 #[rv so, rv va, iv 23, iv 0] [(.ref so)])) rfl (by rw [hml]; rfl) (argsL := []) (rest := []) (lenOf pd7 rfl) rfl rfl (Nat.le_of_eq rfl) (D d11_1)
  obtain ⟨rfl, e345, rfl⟩ := q345
  have N345 := Fr.app N0 (Fr.nil _)
  obtain ⟨T347, X347, e347, st347⟩ := getF X345 hx hZ hown (host := "") (Or.inl (own_w hw (i := 52) rfl)) Via.refl e345 prem3 (g := (mkF m 9 #[rv so, rv va, iv 23, iv 0] [(.ref so)])) rfl rfl (D d11_9)
  obtain ⟨T348, X348, e348, st348⟩ := getF X347 hx hZ hown (host := "") (Or.inl (own_w hw (i := 52) rfl)) Via.refl e347 prem3 (g := (mkF m 18 #[rv so, rv va, iv 23, iv 0] [(.ref so), (.int 23), (.ref va), (.int 0), (.ref sv)])) rfl rfl (D d11_18)
  obtain ⟨cl349, Ar349, qk349, S349, Ng349, H349, G349⟩ := id prem5
  obtain ⟨T350, h350, L350, X350, e350, N350, Kq350, V350, st350⟩ := own_cpG X348 hx hZ hown (own_w hw (i := 83) rfl) (own_w hw (i := 86) rfl) (own_w hw (i := 84) rfl) (own_w hw (i := 85) rfl) e348 prem5 prem6 (dp := (23 : Int32)) (nn := (34 : Int32)) (by rw [prem0]; decide) (by decide) (by decide) (by rw [prem1]; decide) (by decide) (by decide) N345 prem7 (g := (mkF m 22 #[rv so, rv va, iv 23, iv 0] [(.int 34), (.int 23), (.ref va), (.int 0), (.ref sv)])) rfl (by rw [hml]; rfl) rfl (D d11_22) (by decide) (W := 0) (Nat.le_of_eq rfl) (by decide)
  have O351 := Old0.keep O0 Kq350 (allS prem7 all0)
  have K351 := Keep.trans K0 Kq350 (allS (Or.inl (List.mem_of_getElem? (i := 0) rfl)) all0)
  refine Go.of (T' := T350) (f' := (mkF m 43 #[rv so, rv va, iv 23, iv 0] [])) (fun _ k => XS.aloadN X0.here hx rfl (D d11_0) rfl rfl (st345 _ (XS.iloadN X345.here hx rfl (D d11_4) rfl (XS.icmpNo X345.here hx rfl (D d11_5) rfl (teq (by decide : (0 : Int32) = (0 : Int32))).2 (XS.aloadN X345.here hx rfl (D d11_8) rfl rfl (st347 _ (XS.iconst X347.here hx rfl (D d11_12) (XS.aloadN X347.here hx rfl (D d11_13) rfl rfl (XS.iloadN X347.here hx rfl (D d11_14) rfl (XS.iloadN X347.here hx rfl (D d11_15) rfl (XS.ishl X347.here hx rfl (D d11_16) rfl (XS.aloadN X347.here hx rfl (D d11_17) rfl rfl (st348 _ (X348.arraylength hx (by rw [e348]; exact Ar349.1) (State.isArrayOf_alike hZ.alike Ar349.2.1) (g := (mkF m 21 #[rv so, rv va, iv 23, iv 0] [(.ref sv), (.int 23), (.ref va), (.int 0), (.ref sv)])) rfl rfl (D d11_21) _ (by rw [len_of S349 Ng349]; exact (st350 _ (XS.goto X350.here hx rfl (pc0 := 25) (pc' := 43) rfl (D d11_25) (by decide) (by decide) k))))))))))))))))) ?_
  exact Go.retV X350 hx hlk hret (D d11_43) (by decide) (by decide) (by rw [e350]; exact ⟨rfl, N350, K351, V350⟩)
theorem ef_rm_put_23_34_70 (m : MethodId) (ob : Addr) (so : Addr) : entryFrame m #[(.ref ob), (.int (23 : Int32)), (.ref so)] 3 = mkF m 0 #[rv ob, iv (23 : Int32), rv so] [] := by first | (simp [entryFrame, mkF, argsToLocals, Value.category]; done) | rfl
set_option maxRecDepth 65536 in
set_option maxHeartbeats 40000000 in
theorem rm_put_23_34_70 {l : Launch} {Z : State} {a0 : Array Value} {A : Nat → Addr} {KC : Nat → Cell} {IC : Nat → Int32} {VC : Nat → Value} (hw : ∀ d ∈ tables_1, d.before a0 Z = true) (G : own_Ctx Z A KC IC VC) (ob : Addr) (so : Addr) (sv : Addr) (ks : ClassId) (ts : List Int32) (va : Addr) (kv : ClassId) (bs : List Int32) (h0 : Heap) (O0 : Ext Z.heap h0) (prem0 : bs.length = 23) (prem1 : ts.length = 34) (prem2 : Exa Z h0 ob "java/lang/StringBuilder") (prem3 : Fld Z h0 ob "java/lang/AbstractStringBuilder" "value" "[B" (.ref va)) (prem4 : Fld Z h0 ob "java/lang/AbstractStringBuilder" "coder" "B" (.int (0 : Int32))) (prem5 : Exa Z h0 so "java/lang/String") (prem6 : Fld Z h0 so "java/lang/String" "value" "[B" (.ref sv)) (prem7 : Fld Z h0 so "java/lang/String" "coder" "B" (.int (0 : Int32))) (prem8 : Arv Z h0 sv ks .byte (34 : Int32) (ts.map Value.int) (.int (0 : Int32))) (prem9 : Arv Z h0 va kv .byte (70 : Int32) (bs.map Value.int) (.int (0 : Int32))) (prem10 : Z.heap.size ≤ va) :
    Ok l Z own_m29 jdk_68_method_73_code 3 none ({ frames := 2, cells := 0, slots := 0, locals := 33 } : Room) #[(.ref ob), (.int (23 : Int32)), (.ref so)] h0
      (fun v h L => v = none ∧ (Fr Z.heap.size L) ∧ (Keep h0 h [va]) ∧ (Arv Z h va kv .byte (70 : Int32) ((bs ++ ts).map Value.int) (.int (0 : Int32)))) := by
  refine Ok.mk pn30 ?_
  intro p e s m below meth c T0 hx hby hml hown hnm hret hlk hZ e0 X0
  refine Go.cast (ef_rm_put_23_34_70 m ob so) ?_
  have D := @hb _ _ hby
  have N0 := Fr.nil Z.heap.size
  have K0 : Keep h0 h0 [va] := Keep.refl _ _
  obtain ⟨T352, v352, L352, X352, q352, st352⟩ := callPr X0 hx hZ (y := own_m10) hown (own_w hw (i := 72) rfl) (own_w hw (i := 73) rfl) (own_selfsel (own_w hw (i := 73) rfl) (own_w hw (i := 75) rfl) (own_w hw (i := 74) rfl) (by decide)) (own_w hw (i := 74) rfl) (own_w hw (i := 26) rfl) (own_w hw (i := 76) rfl) (by decide) (rm_infl hw G ob so  h0 O0 prem4 prem5 prem7) e0 (W := 0) (by decide) (by decide) (by decide) (by decide) prem2 (g := (mkF m 2 #[rv ob, iv 23, rv so] [(.ref so), (.ref ob)])) rfl (by rw [hml]; rfl) (a := ob) (argsL := [(.ref so)]) (rest := []) (lenOf pd27 rfl) rfl rfl (Nat.le_of_eq rfl) (D d9_2)
  obtain ⟨rfl, e352, rfl⟩ := q352
  have N352 := Fr.app N0 (Fr.nil _)
  obtain ⟨T353, X353, e353, st353⟩ := getF X352 hx hZ hown (host := "") (Or.inl (own_w hw (i := 32) rfl)) Via.refl e352 prem3 (g := (mkF m 7 #[rv ob, iv 23, rv so] [(.ref ob), (.ref so)])) rfl rfl (D d9_7)
  obtain ⟨T354, X354, e354, st354⟩ := getF X353 hx hZ hown (host := "") (Or.inl (own_w hw (i := 34) rfl)) Via.refl e353 prem4 (g := (mkF m 12 #[rv ob, iv 23, rv so] [(.ref ob), (.int 23), (.ref va), (.ref so)])) rfl rfl (D d9_12)
  obtain ⟨T355, v355, L355, X355, q355, st355⟩ := callVi X354 hx hZ (y := own_m25) (z := own_m25) hown (own_w hw (i := 78) rfl) (own_w hw (i := 79) rfl) (notFace_of_selects (args := #[]) (mvT hZ (own_w hw (i := 81) rfl))) (own_w hw (i := 81) rfl) (own_w hw (i := 80) rfl) (own_w hw (i := 82) rfl) (own_w hw (i := 4) rfl) (by decide) (rm_getb_23_34_70 hw G so va sv ks ts kv bs h0 O0 (prem0) (prem1) prem5 prem6 prem7 prem8 prem9 prem10) e354 (W := 0) (by decide) (by decide) (by decide) (by decide) prem5 (g := (mkF m 15 #[rv ob, iv 23, rv so] [(.int 0), (.int 23), (.ref va), (.ref so)])) rfl (by rw [hml]; rfl) (argsL := [(.ref va), (.int 23), (.int 0)]) (rest := []) (lenOf pd28 rfl) rfl rfl (Nat.le_of_eq rfl) (D d9_15)
  obtain ⟨rfl, N355q, K355q, p355_0⟩ := q355
  have N355 := Fr.app N352 N355q
  have O356 := Old0.keep O0 K355q (allS prem10 all0)
  have K356 := Keep.trans K0 K355q (allS (Or.inl (List.mem_of_getElem? (i := 0) rfl)) all0)
  refine Go.of (T' := T355) (f' := (mkF m 18 #[rv ob, iv 23, rv so] [])) (fun _ k => XS.aloadN X0.here hx rfl (D d9_0) rfl rfl (XS.aloadN X0.here hx rfl (D d9_1) rfl rfl (st352 _ (XS.aloadN X352.here hx rfl (D d9_5) rfl rfl (XS.aloadN X352.here hx rfl (D d9_6) rfl rfl (st353 _ (XS.iloadN X353.here hx rfl (D d9_10) rfl (XS.aloadN X353.here hx rfl (D d9_11) rfl rfl (st354 _ (st355 _ k)))))))))) ?_
  exact Go.retV X355 hx hlk hret (D d9_18) (by decide) (by decide) ⟨rfl, N355, K356, p355_0⟩
theorem ef_rm_aba_23_34_34 (m : MethodId) (ob : Addr) (so : Addr) : entryFrame m #[(.ref ob), (.ref so)] 3 = mkF m 0 #[rv ob, rv so, .unset] [] := by first | (simp [entryFrame, mkF, argsToLocals, Value.category]; done) | rfl
set_option maxRecDepth 65536 in
set_option maxHeartbeats 40000000 in
theorem rm_aba_23_34_34 {l : Launch} {Z : State} {a0 : Array Value} {A : Nat → Addr} {KC : Nat → Cell} {IC : Nat → Int32} {VC : Nat → Value} (hw : ∀ d ∈ tables_1, d.before a0 Z = true) (G : own_Ctx Z A KC IC VC) (ob : Addr) (so : Addr) (sv : Addr) (ks : ClassId) (ts : List Int32) (va : Addr) (kv : ClassId) (bs : List Int32) (h0 : Heap) (O0 : Ext Z.heap h0) (prem0 : bs.length = 23) (prem1 : ts.length = 34) (prem2 : Exa Z h0 ob "java/lang/StringBuilder") (prem3 : Fld Z h0 ob "java/lang/AbstractStringBuilder" "value" "[B" (.ref va)) (prem4 : Fld Z h0 ob "java/lang/AbstractStringBuilder" "coder" "B" (.int (0 : Int32))) (prem5 : Fld Z h0 ob "java/lang/AbstractStringBuilder" "count" "I" (.int (23 : Int32))) (prem6 : Exa Z h0 so "java/lang/String") (prem7 : Fld Z h0 so "java/lang/String" "value" "[B" (.ref sv)) (prem8 : Fld Z h0 so "java/lang/String" "coder" "B" (.int (0 : Int32))) (prem9 : Arv Z h0 sv ks .byte (34 : Int32) (ts.map Value.int) (.int (0 : Int32))) (prem10 : Arv Z h0 va kv .byte (34 : Int32) (bs.map Value.int) (.int (0 : Int32))) (prem11 : Z.heap.size ≤ ob) (prem12 : Z.heap.size ≤ va) (prem13 : ob ≠ va) (prem14 : so ≠ ob) (prem15 : sv ≠ ob) (prem16 : so ≠ va) (prem17 : sv ≠ va) :
    Ok l Z own_m33 jdk_68_method_22_code 3 (some (.object "java/lang/AbstractStringBuilder")) ({ frames := 4, cells := 1, slots := 70, locals := 62 } : Room) #[(.ref ob), (.ref so)] h0
      (fun v h L => ∃ vb : Addr, ∃ kb : ClassId, v = some (.ref ob) ∧ (Fr Z.heap.size L) ∧ (Keep h0 h [ob]) ∧ (h0.size ≤ vb) ∧ (Fld Z h ob "java/lang/AbstractStringBuilder" "value" "[B" (.ref vb)) ∧ (Fld Z h ob "java/lang/AbstractStringBuilder" "coder" "B" (.int (0 : Int32))) ∧ (Fld Z h ob "java/lang/AbstractStringBuilder" "count" "I" (.int (57 : Int32))) ∧ (Arv Z h vb kb .byte (70 : Int32) ((bs ++ ts).map Value.int) (.int (0 : Int32)))) := by
  refine Ok.mk pn34 ?_
  intro p e s m below meth c T0 hx hby hml hown hnm hret hlk hZ e0 X0
  refine Go.cast (ef_rm_aba_23_34_34 m ob so) ?_
  have D := @hb _ _ hby
  have N0 := Fr.nil Z.heap.size
  have K0 : Keep h0 h0 [ob] := Keep.refl _ _
  obtain ⟨T357, v357, L357, X357, q357, st357⟩ := callVi X0 hx hZ (y := own_m8) (z := own_m8) hown (own_w hw (i := 47) rfl) (own_w hw (i := 48) rfl) (notFace_of_selects (args := #[]) (mvT hZ (own_w hw (i := 50) rfl))) (own_w hw (i := 50) rfl) (own_w hw (i := 49) rfl) (own_w hw (i := 51) rfl) (own_w hw (i := 4) rfl) (by decide) (rm_len hw G so sv ks ((34 : Int32)) ts h0 O0 prem6 prem7 prem8 prem9 (by decide)) e0 (W := 0) (by decide) (by decide) (by decide) (by decide) prem6 (g := (mkF m 10 #[rv ob, rv so, .unset] [(.ref so)])) rfl (by rw [hml]; rfl) (argsL := []) (rest := []) (lenOf pd31 rfl) rfl rfl (Nat.le_of_eq rfl) (D d5_10)
  obtain ⟨rfl, e357, rfl⟩ := q357
  have N357 := Fr.app N0 (Fr.nil _)
  obtain ⟨T358, X358, e358, st358⟩ := getF X357 hx hZ hown (host := "") (Or.inl (own_w hw (i := 60) rfl)) Via.refl e357 prem5 (g := (mkF m 16 #[rv ob, rv so, iv 34] [(.ref ob), (.ref ob)])) rfl rfl (D d5_16)
  obtain ⟨T359, v359, L359, X359, q359, st359⟩ := callPr X358 hx hZ (y := own_m23) hown (own_w hw (i := 62) rfl) (own_w hw (i := 63) rfl) (own_selfsel (own_w hw (i := 63) rfl) (own_w hw (i := 65) rfl) (own_w hw (i := 64) rfl) (by decide)) (own_w hw (i := 64) rfl) (own_w hw (i := 26) rfl) (own_w hw (i := 66) rfl) (by decide) (rm_ecg_23_57_34 hw G ob va kv bs h0 O0 (prem0) prem2 prem3 prem4 prem10 prem11 prem5) e358 (W := 0) (by decide) (by decide) (by decide) (by decide) prem2 (g := (mkF m 21 #[rv ob, rv so, iv 34] [(.int 57), (.ref ob)])) rfl (by rw [hml]; rfl) (a := ob) (argsL := [(.int 57)]) (rest := []) (lenOf pd2 rfl) rfl rfl (Nat.le_of_eq rfl) (D d5_21)
  obtain ⟨vb_359, kb_359, rfl, N359q, K359q, p359_0, p359_1, p359_2, p359_3, p359_4⟩ := q359
  have N359 := Fr.app N357 N359q
  have O360 := Old0.keep O0 K359q (allS prem11 all0)
  have K360 := Keep.trans K0 K359q (allS (Or.inl (List.mem_of_getElem? (i := 0) rfl)) all0)
  have z_vb_359 : h0.size ≤ vb_359 := Nat.le_trans K0.1 p359_0
  have g_vb_359 : Z.heap.size ≤ vb_359 := Nat.le_trans O0.1 p359_0
  have ne_ob_vb_359 : ob ≠ vb_359 := Nat.ne_of_lt (Nat.lt_of_lt_of_le prem2.lt p359_0)
  have ne_so_vb_359 : so ≠ vb_359 := Nat.ne_of_lt (Nat.lt_of_lt_of_le prem6.lt p359_0)
  have ne_sv_vb_359 : sv ≠ vb_359 := Nat.ne_of_lt (Nat.lt_of_lt_of_le prem9.lt p359_0)
  have ne_va_vb_359 : va ≠ vb_359 := Nat.ne_of_lt (Nat.lt_of_lt_of_le prem10.lt p359_0)
  obtain ⟨T361, X361, e361, st361⟩ := getF X359 hx hZ hown (host := "") (Or.inl (own_w hw (i := 60) rfl)) Via.refl rfl p359_3 (g := (mkF m 26 #[rv ob, rv so, iv 34] [(.ref ob), (.ref ob)])) rfl rfl (D d5_26)
  have f363 : Exa Z T359.heap ob "java/lang/StringBuilder" := (Exa.keep prem2 K359q)
  have f364 : Exa Z T359.heap so "java/lang/String" := (Exa.keep prem6 K359q)
  have f365 : Fld Z T359.heap so "java/lang/String" "value" "[B" (.ref sv) := (Fld.keep prem7 K359q (ninS prem14 nin0))
  have f366 : Fld Z T359.heap so "java/lang/String" "coder" "B" (.int 0) := (Fld.keep prem8 K359q (ninS prem14 nin0))
  have f367 : Arv Z T359.heap sv ks .byte (34 : Int32) (ts.map Value.int) (.int 0) := (Arv.keep prem9 K359q (ninS prem15 nin0))
  obtain ⟨T362, v362, L362, X362, q362, st362⟩ := callPr X361 hx hZ (y := own_m29) hown (own_w hw (i := 67) rfl) (own_w hw (i := 68) rfl) (own_selfsel (own_w hw (i := 68) rfl) (own_w hw (i := 70) rfl) (own_w hw (i := 69) rfl) (by decide)) (own_w hw (i := 69) rfl) (own_w hw (i := 26) rfl) (own_w hw (i := 71) rfl) (by decide) (rm_put_23_34_70 hw G ob so sv ks ts vb_359 kb_359 bs T359.heap O360 (prem0) (prem1) f363 p359_1 p359_2 f364 f365 f366 f367 p359_4 g_vb_359) e361 (W := 0) (by decide) (by decide) (by decide) (by decide) f363 (g := (mkF m 30 #[rv ob, rv so, iv 34] [(.ref so), (.int 23), (.ref ob)])) rfl (by rw [hml]; rfl) (a := ob) (argsL := [(.int 23), (.ref so)]) (rest := []) (lenOf pd32 rfl) rfl rfl (Nat.le_of_eq rfl) (D d5_30)
  obtain ⟨rfl, N362q, K362q, p362_0⟩ := q362
  have N362 := Fr.app N359 N362q
  have O368 := Old0.keep O360 K362q (allS g_vb_359 all0)
  have K368 := Keep.trans K360 K362q (allS (Or.inr z_vb_359) all0)
  have f370 : Fld Z T362.heap ob "java/lang/AbstractStringBuilder" "count" "I" (.int 23) := (Fld.keep p359_3 K362q (ninS ne_ob_vb_359 nin0))
  obtain ⟨T369, X369, e369, st369⟩ := getF X362 hx hZ hown (host := "") (Or.inl (own_w hw (i := 60) rfl)) Via.refl rfl f370 (g := (mkF m 35 #[rv ob, rv so, iv 34] [(.ref ob), (.ref ob)])) rfl rfl (D d5_35)
  have f372 : Exa Z T362.heap ob "java/lang/StringBuilder" := (Exa.keep f363 K362q)
  obtain ⟨T371, h371, X371, e371, W371, st371⟩ := putF X369 hx hZ hown (host := "") (Or.inl (own_w hw (i := 60) rfl)) Via.refl e369 f370 f372 (Or.inl (own_w hw (i := 61) rfl)) (own_w hw (i := 17) rfl) (ty := .int) (by decide) rfl rfl (g := (mkF m 40 #[rv ob, rv so, iv 34] [(.int 57), (.ref ob)])) rfl rfl (D d5_40)
  have O373 := Old0.wr O368 W371 prem11
  have K373 := Keep.wr K368 W371 (Or.inl (List.mem_of_getElem? (i := 0) rfl))
  have N371 := Fr.snoc X371 N362 prem11
  have f371 : Fld Z h371 ob "java/lang/AbstractStringBuilder" "count" "I" (.int 57) := Fld.same W371 f370
  have f374 : Fld Z h371 ob "java/lang/AbstractStringBuilder" "value" "[B" (.ref vb_359) := (Fld.other W371 (Fld.keep p359_1 K362q (ninS ne_ob_vb_359 nin0)) (Or.inr (slot_ne (Or.inl (own_w hw (i := 33) rfl)) (Or.inl (own_w hw (i := 61) rfl)) (by decide) (t := (.array .byte)) (t' := .int) (by decide) (by decide))))
  have f375 : Fld Z h371 ob "java/lang/AbstractStringBuilder" "coder" "B" (.int 0) := (Fld.other W371 (Fld.keep p359_2 K362q (ninS ne_ob_vb_359 nin0)) (Or.inr (slot_ne (Or.inl (own_w hw (i := 35) rfl)) (Or.inl (own_w hw (i := 61) rfl)) (by decide) (t := .byte) (t' := .int) (by decide) (by decide))))
  have f376 : Arv Z h371 vb_359 kb_359 .byte (70 : Int32) ((bs ++ ts).map Value.int) (.int 0) := (Arv.other p362_0 W371 (Ne.symm ne_ob_vb_359))
  refine Go.of (T' := T371) (f' := (mkF m 44 #[rv ob, rv so, iv 34] [(.ref ob)])) (fun _ k => XS.aloadN X0.here hx rfl (D d5_0) rfl rfl (XS.ifnonnullYes X0.here hx rfl (pc0 := 1) (pc' := 9) rfl (D d5_1) rfl (by decide) (by decide) (XS.aloadN X0.here hx rfl (D d5_9) rfl rfl (st357 _ (XS.istoreN X357.here hx rfl (D d5_13) rfl (l' := #[rv ob, rv so, iv 34]) rfl (XS.aloadN X357.here hx rfl (D d5_14) rfl rfl (XS.aloadN X357.here hx rfl (D d5_15) rfl rfl (st358 _ (XS.iloadN X358.here hx rfl (D d5_19) rfl (XS.iadd X358.here hx rfl (D d5_20) rfl (st359 _ (XS.aloadN X359.here hx rfl (D d5_24) rfl rfl (XS.aloadN X359.here hx rfl (D d5_25) rfl rfl (st361 _ (XS.aloadN X361.here hx rfl (D d5_29) rfl rfl (st362 _ (XS.aloadN X362.here hx rfl (D d5_33) rfl rfl (XS.dup X362.here hx rfl (D d5_34) rfl rfl (st369 _ (XS.iloadN X369.here hx rfl (D d5_38) rfl (XS.iadd X369.here hx rfl (D d5_39) rfl (st371 _ (XS.aloadN X371.here hx rfl (D d5_43) rfl rfl k))))))))))))))))))))))) ?_
  exact Go.retA X371 hx hlk hret rfl rfl (D d5_44) (by decide) (by decide) (by rw [e371]; exact ⟨vb_359, kb_359, rfl, N371, K373, z_vb_359, f374, f375, f371, f376⟩)
theorem ef_rm_sba_23_34_34 (m : MethodId) (ob : Addr) (so : Addr) : entryFrame m #[(.ref ob), (.ref so)] 2 = mkF m 0 #[rv ob, rv so] [] := by first | (simp [entryFrame, mkF, argsToLocals, Value.category]; done) | rfl
set_option maxRecDepth 65536 in
set_option maxHeartbeats 40000000 in
theorem rm_sba_23_34_34 {l : Launch} {Z : State} {a0 : Array Value} {A : Nat → Addr} {KC : Nat → Cell} {IC : Nat → Int32} {VC : Nat → Value} (hw : ∀ d ∈ tables_1, d.before a0 Z = true) (G : own_Ctx Z A KC IC VC) (ob : Addr) (so : Addr) (sv : Addr) (ks : ClassId) (ts : List Int32) (va : Addr) (kv : ClassId) (bs : List Int32) (h0 : Heap) (O0 : Ext Z.heap h0) (prem0 : bs.length = 23) (prem1 : ts.length = 34) (prem2 : Exa Z h0 ob "java/lang/StringBuilder") (prem3 : Fld Z h0 ob "java/lang/AbstractStringBuilder" "value" "[B" (.ref va)) (prem4 : Fld Z h0 ob "java/lang/AbstractStringBuilder" "coder" "B" (.int (0 : Int32))) (prem5 : Fld Z h0 ob "java/lang/AbstractStringBuilder" "count" "I" (.int (23 : Int32))) (prem6 : Exa Z h0 so "java/lang/String") (prem7 : Fld Z h0 so "java/lang/String" "value" "[B" (.ref sv)) (prem8 : Fld Z h0 so "java/lang/String" "coder" "B" (.int (0 : Int32))) (prem9 : Arv Z h0 sv ks .byte (34 : Int32) (ts.map Value.int) (.int (0 : Int32))) (prem10 : Arv Z h0 va kv .byte (34 : Int32) (bs.map Value.int) (.int (0 : Int32))) (prem11 : Z.heap.size ≤ ob) (prem12 : Z.heap.size ≤ va) (prem13 : ob ≠ va) (prem14 : so ≠ ob) (prem15 : sv ≠ ob) (prem16 : so ≠ va) (prem17 : sv ≠ va) :
    Ok l Z own_m36 jdk_67_method_7_code 2 (some (.object "java/lang/StringBuilder")) ({ frames := 5, cells := 1, slots := 70, locals := 76 } : Room) #[(.ref ob), (.ref so)] h0
      (fun v h L => ∃ vb : Addr, ∃ kb : ClassId, v = some (.ref ob) ∧ (Fr Z.heap.size L) ∧ (Keep h0 h [ob]) ∧ (h0.size ≤ vb) ∧ (Fld Z h ob "java/lang/AbstractStringBuilder" "value" "[B" (.ref vb)) ∧ (Fld Z h ob "java/lang/AbstractStringBuilder" "coder" "B" (.int (0 : Int32))) ∧ (Fld Z h ob "java/lang/AbstractStringBuilder" "count" "I" (.int (57 : Int32))) ∧ (Arv Z h vb kb .byte (70 : Int32) ((bs ++ ts).map Value.int) (.int (0 : Int32)))) := by
  refine Ok.mk pn37 ?_
  intro p e s m below meth c T0 hx hby hml hown hnm hret hlk hZ e0 X0
  refine Go.cast (ef_rm_sba_23_34_34 m ob so) ?_
  have D := @hb _ _ hby
  have N0 := Fr.nil Z.heap.size
  have K0 : Keep h0 h0 [ob] := Keep.refl _ _
  obtain ⟨T377, v377, L377, X377, q377, st377⟩ := callSu X0 hx hZ (y := own_m33) hown (own_w hw (i := 42) rfl) (nf_mate (own_w hw (i := 65) rfl) rfl) (own_w hw (i := 43) rfl) (own_w hw (i := 44) rfl) (by decide) (own_w hw (i := 46) rfl) (own_w hw (i := 26) rfl) (by decide) (rm_aba_23_34_34 hw G ob so sv ks ts va kv bs h0 O0 (prem0) (prem1) prem2 prem3 prem4 prem5 prem6 prem7 prem8 prem9 prem10 prem11 prem12 prem13 prem14 prem15 prem16 prem17) e0 (W := 0) (by decide) (by decide) (by decide) (by decide) (Ins.self prem2) (g := (mkF m 2 #[rv ob, rv so] [(.ref so), (.ref ob)])) rfl (by rw [hml]; rfl) (argsL := [(.ref so)]) (rest := []) (lenOf pd35 rfl) rfl rfl (Nat.le_of_eq rfl) (D d4_2)
  obtain ⟨vb_377, kb_377, rfl, N377q, K377q, p377_0, p377_1, p377_2, p377_3, p377_4⟩ := q377
  have N377 := Fr.app N0 N377q
  have O378 := Old0.keep O0 K377q (allS prem11 all0)
  have K378 := Keep.trans K0 K377q (allS (Or.inl (List.mem_of_getElem? (i := 0) rfl)) all0)
  have z_vb_377 : h0.size ≤ vb_377 := Nat.le_trans K0.1 p377_0
  have g_vb_377 : Z.heap.size ≤ vb_377 := Nat.le_trans O0.1 p377_0
  have ne_ob_vb_377 : ob ≠ vb_377 := Nat.ne_of_lt (Nat.lt_of_lt_of_le prem2.lt p377_0)
  have ne_so_vb_377 : so ≠ vb_377 := Nat.ne_of_lt (Nat.lt_of_lt_of_le prem6.lt p377_0)
  have ne_sv_vb_377 : sv ≠ vb_377 := Nat.ne_of_lt (Nat.lt_of_lt_of_le prem9.lt p377_0)
  have ne_va_vb_377 : va ≠ vb_377 := Nat.ne_of_lt (Nat.lt_of_lt_of_le prem10.lt p377_0)
  refine Go.of (T' := T377) (f' := (mkF m 7 #[rv ob, rv so] [(.ref ob)])) (fun _ k => XS.aloadN X0.here hx rfl (D d4_0) rfl rfl (XS.aloadN X0.here hx rfl (D d4_1) rfl rfl (st377 _ (XT.pop X377.here hx rfl (D d4_5) rfl rfl (XS.aloadN X377.here hx rfl (D d4_6) rfl rfl k))))) ?_
  exact Go.retA X377 hx hlk hret rfl rfl (D d4_7) (by decide) (by decide) ⟨vb_377, kb_377, rfl, N377, K378, z_vb_377, p377_1, p377_2, p377_3, p377_4⟩
theorem d27_0 : decode jdk_68_method_6_code 0 = .ok (.aload_n 0, 1) := by decide +kernel
theorem d27_1 : decode jdk_68_method_6_code 1 = .ok (.getfield 79, 3) := by decide +kernel
theorem d27_4 : decode jdk_68_method_6_code 4 = .ok (.ireturn, 1) := by decide +kernel
abbrev own_m59 : MethodName := (⟨"java/lang/AbstractStringBuilder", "length", "()I"⟩ : MethodName)
theorem ef_rm_all_57 (m : MethodId) (ob : Addr) : entryFrame m #[(.ref ob)] 1 = mkF m 0 #[rv ob] [] := by first | (simp [entryFrame, mkF, argsToLocals, Value.category]; done) | rfl
theorem pn60 : plainFor (⟨"java/lang/AbstractStringBuilder", "length", "()I"⟩ : MethodName) = true := by first | exact plainFor_of_name (by first | (simp [plainName, overriddenIn]; done) | decide +kernel) | decide +kernel
set_option maxRecDepth 65536 in
set_option maxHeartbeats 40000000 in
theorem rm_all_57 {l : Launch} {Z : State} {a0 : Array Value} {A : Nat → Addr} {KC : Nat → Cell} {IC : Nat → Int32} {VC : Nat → Value} (hw : ∀ d ∈ tables_1, d.before a0 Z = true) (G : own_Ctx Z A KC IC VC) (ob : Addr)  (h0 : Heap) (O0 : Ext Z.heap h0) (prem0 : Fld Z h0 ob "java/lang/AbstractStringBuilder" "count" "I" (.int (57 : Int32))) :
    Ok l Z own_m59 jdk_68_method_6_code 1 (some .int) ({ frames := 0, cells := 0, slots := 0, locals := 0 } : Room) #[(.ref ob)] h0
      (fun v h L => v = some (.int (57 : Int32)) ∧ (h = h0) ∧ (L = [])) := by
  refine Ok.mk pn60 ?_
  intro p e s m below meth c T0 hx hby hml hown hnm hret hlk hZ e0 X0
  refine Go.cast (ef_rm_all_57 m ob) ?_
  have D := @hb _ _ hby
  have N0 := Fr.nil Z.heap.size
  have K0 : Keep h0 h0 [] := Keep.refl _ _
  obtain ⟨T379, X379, e379, st379⟩ := getF X0 hx hZ hown (host := "") (Or.inl (own_w hw (i := 60) rfl)) Via.refl e0 prem0 (g := (mkF m 1 #[rv ob] [(.ref ob)])) rfl rfl (D d27_1)
  refine Go.of (T' := T379) (f' := (mkF m 4 #[rv ob] [(.int 57)])) (fun _ k => XS.aloadN X0.here hx rfl (D d27_0) rfl rfl (st379 _ k)) ?_
  exact Go.retI X379 hx hlk hret (D d27_4) (by decide) (by decide) (by rw [e379]; exact ⟨rfl, rfl, by simp⟩)
theorem d26_0 : decode jdk_67_method_93_code 0 = .ok (.aload_n 0, 1) := by decide +kernel
theorem d26_1 : decode jdk_67_method_93_code 1 = .ok (.invokespecial 343, 3) := by decide +kernel
theorem d26_4 : decode jdk_67_method_93_code 4 = .ok (.ireturn, 1) := by decide +kernel
abbrev own_m61 : MethodName := (⟨"java/lang/StringBuilder", "length", "()I"⟩ : MethodName)
theorem ef_rm_sll_57 (m : MethodId) (ob : Addr) : entryFrame m #[(.ref ob)] 1 = mkF m 0 #[rv ob] [] := by first | (simp [entryFrame, mkF, argsToLocals, Value.category]; done) | rfl
theorem pn62 : plainFor (⟨"java/lang/StringBuilder", "length", "()I"⟩ : MethodName) = true := by first | exact plainFor_of_name (by first | (simp [plainName, overriddenIn]; done) | decide +kernel) | decide +kernel
set_option maxRecDepth 65536 in
set_option maxHeartbeats 40000000 in
theorem rm_sll_57 {l : Launch} {Z : State} {a0 : Array Value} {A : Nat → Addr} {KC : Nat → Cell} {IC : Nat → Int32} {VC : Nat → Value} (hw : ∀ d ∈ tables_1, d.before a0 Z = true) (G : own_Ctx Z A KC IC VC) (ob : Addr)  (h0 : Heap) (O0 : Ext Z.heap h0) (prem0 : Exa Z h0 ob "java/lang/StringBuilder") (prem1 : Fld Z h0 ob "java/lang/AbstractStringBuilder" "count" "I" (.int (57 : Int32))) :
    Ok l Z own_m61 jdk_67_method_93_code 1 (some .int) ({ frames := 1, cells := 0, slots := 0, locals := 12 } : Room) #[(.ref ob)] h0
      (fun v h L => v = some (.int (57 : Int32)) ∧ (h = h0) ∧ (L = [])) := by
  refine Ok.mk pn62 ?_
  intro p e s m below meth c T0 hx hby hml hown hnm hret hlk hZ e0 X0
  refine Go.cast (ef_rm_sll_57 m ob) ?_
  have D := @hb _ _ hby
  have N0 := Fr.nil Z.heap.size
  have K0 : Keep h0 h0 [] := Keep.refl _ _
  obtain ⟨T380, v380, L380, X380, q380, st380⟩ := callSu X0 hx hZ (y := own_m59) hown (own_w hw (i := 167) rfl) (nf_mate (own_w hw (i := 65) rfl) rfl) (own_w hw (i := 163) rfl) (own_w hw (i := 44) rfl) (by decide) (own_w hw (i := 168) rfl) (own_w hw (i := 26) rfl) (by decide) (rm_all_57 hw G ob  h0 O0 prem1) e0 (W := 0) (by decide) (by decide) (by decide) (by decide) (Ins.self prem0) (g := (mkF m 1 #[rv ob] [(.ref ob)])) rfl (by rw [hml]; rfl) (argsL := []) (rest := []) (lenOf pd31 rfl) rfl rfl (Nat.le_of_eq rfl) (D d26_1)
  obtain ⟨rfl, e380, rfl⟩ := q380
  have N380 := Fr.app N0 (Fr.nil _)
  refine Go.of (T' := T380) (f' := (mkF m 4 #[rv ob] [(.int 57)])) (fun _ k => XS.aloadN X0.here hx rfl (D d26_0) rfl rfl (st380 _ k)) ?_
  exact Go.retI X380 hx hlk hret (D d26_4) (by decide) (by decide) (by rw [e380]; exact ⟨rfl, rfl, by simp⟩)
theorem d30_0 : decode jdk_65_method_131_code 0 = .ok (.iload_n 1, 1) := by decide +kernel
theorem d30_1 : decode jdk_65_method_131_code 1 = .ok (.iload_n 0, 1) := by decide +kernel
theorem d30_2 : decode jdk_65_method_131_code 2 = .ok (.if_icmp .ge 35, 3) := by decide +kernel
theorem d30_37 : decode jdk_65_method_131_code 37 = .ok (.return_, 1) := by decide +kernel
abbrev own_m63 : MethodName := (⟨"java/util/Arrays", "checkLength", "(II)V"⟩ : MethodName)
theorem ef_rm_ckl_57 (m : MethodId)  : entryFrame m #[(.int (0 : Int32)), (.int (57 : Int32))] 2 = mkF m 0 #[iv (0 : Int32), iv (57 : Int32)] [] := by first | (simp [entryFrame, mkF, argsToLocals, Value.category]; done) | rfl
theorem pn64 : plainFor (⟨"java/util/Arrays", "checkLength", "(II)V"⟩ : MethodName) = true := by first | exact plainFor_of_name (by first | (simp [plainName, overriddenIn]; done) | decide +kernel) | decide +kernel
set_option maxRecDepth 65536 in
set_option maxHeartbeats 40000000 in
theorem rm_ckl_57 {l : Launch} {Z : State} {a0 : Array Value} {A : Nat → Addr} {KC : Nat → Cell} {IC : Nat → Int32} {VC : Nat → Value} (hw : ∀ d ∈ tables_1, d.before a0 Z = true) (G : own_Ctx Z A KC IC VC)   (h0 : Heap) (O0 : Ext Z.heap h0)  :
    Ok l Z own_m63 jdk_65_method_131_code 2 none ({ frames := 0, cells := 0, slots := 0, locals := 0 } : Room) #[(.int (0 : Int32)), (.int (57 : Int32))] h0
      (fun v h L => v = none ∧ (h = h0) ∧ (L = [])) := by
  refine Ok.mk pn64 ?_
  intro p e s m below meth c T0 hx hby hml hown hnm hret hlk hZ e0 X0
  refine Go.cast (ef_rm_ckl_57 m ) ?_
  have D := @hb _ _ hby
  have N0 := Fr.nil Z.heap.size
  have K0 : Keep h0 h0 [] := Keep.refl _ _
  refine Go.of (T' := T0) (f' := (mkF m 37 #[iv 0, iv 57] [])) (fun _ k => XS.iloadN X0.here hx rfl (D d30_0) rfl (XS.iloadN X0.here hx rfl (D d30_1) rfl (XS.icmpYes X0.here hx rfl (pc0 := 2) (pc' := 37) rfl (D d30_2) rfl (flt (by decide : ¬ ((57 : Int32) < (0 : Int32)))).2.1 (by decide) (by decide) k))) ?_
  exact Go.retV X0 hx hlk hret (D d30_37) (by decide) (by decide) (by rw [e0]; exact ⟨rfl, rfl, by simp⟩)
theorem d19_9 : decode jdk_29_method_69_code 9 = .ok (.iload_n 1, 1) := by decide +kernel
theorem ef_rm_min_70_57 (m : MethodId)  : entryFrame m #[(.int (70 : Int32)), (.int (57 : Int32))] 2 = mkF m 0 #[iv (70 : Int32), iv (57 : Int32)] [] := by first | (simp [entryFrame, mkF, argsToLocals, Value.category]; done) | rfl
set_option maxRecDepth 65536 in
set_option maxHeartbeats 40000000 in
theorem rm_min_70_57 {l : Launch} {Z : State} {a0 : Array Value} {A : Nat → Addr} {KC : Nat → Cell} {IC : Nat → Int32} {VC : Nat → Value} (hw : ∀ d ∈ tables_1, d.before a0 Z = true) (G : own_Ctx Z A KC IC VC)   (h0 : Heap) (O0 : Ext Z.heap h0)  :
    Ok l Z own_m45 jdk_29_method_69_code 2 (some .int) ({ frames := 0, cells := 0, slots := 0, locals := 0 } : Room) #[(.int (70 : Int32)), (.int (57 : Int32))] h0
      (fun v h L => v = some (.int (57 : Int32)) ∧ (h = h0) ∧ (L = [])) := by
  refine Ok.mk pn_java_lang_Math_min__II_I ?_
  intro p e s m below meth c T0 hx hby hml hown hnm hret hlk hZ e0 X0
  refine Go.cast (ef_rm_min_70_57 m ) ?_
  have D := @hb _ _ hby
  have N0 := Fr.nil Z.heap.size
  have K0 : Keep h0 h0 [] := Keep.refl _ _
  refine Go.of (T' := T0) (f' := (mkF m 10 #[iv 70, iv 57] [(.int 57)])) (fun _ k => XS.iloadN X0.here hx rfl (D d19_0) rfl (XS.iloadN X0.here hx rfl (D d19_1) rfl (XS.icmpYes X0.here hx rfl (pc0 := 2) (pc' := 9) rfl (D d19_2) rfl (tlt (by decide : (57 : Int32) < (70 : Int32))).2.2.1 (by decide) (by decide) (XS.iloadN X0.here hx rfl (D d19_9) rfl k)))) ?_
  exact Go.retI X0 hx hlk hret (D d19_10) (by decide) (by decide) (by rw [e0]; exact ⟨rfl, rfl, by simp⟩)
theorem d29_0 : decode jdk_65_method_133_code 0 = .ok (.iload_n 1, 1) := by decide +kernel
theorem d29_1 : decode jdk_65_method_133_code 1 = .ok (.iload_n 2, 1) := by decide +kernel
theorem d29_2 : decode jdk_65_method_133_code 2 = .ok (.invokestatic 343, 3) := by decide +kernel
theorem pd65 : parseMethodDescriptor "(II)V" = some ⟨[.int, .int], none⟩ := by decide +kernel
theorem d29_5 : decode jdk_65_method_133_code 5 = .ok (.iload_n 2, 1) := by decide +kernel
theorem d29_6 : decode jdk_65_method_133_code 6 = .ok (.iload_n 1, 1) := by decide +kernel
theorem d29_7 : decode jdk_65_method_133_code 7 = .ok (.isub, 1) := by decide +kernel
theorem d29_8 : decode jdk_65_method_133_code 8 = .ok (.istore_n 3, 1) := by decide +kernel
theorem d29_9 : decode jdk_65_method_133_code 9 = .ok (.iload_n 3, 1) := by decide +kernel
theorem d29_10 : decode jdk_65_method_133_code 10 = .ok (.newarray .byte, 2) := by decide +kernel
theorem d29_12 : decode jdk_65_method_133_code 12 = .ok (.astore 4, 2) := by decide +kernel
theorem d29_14 : decode jdk_65_method_133_code 14 = .ok (.aload_n 0, 1) := by decide +kernel
theorem d29_15 : decode jdk_65_method_133_code 15 = .ok (.iload_n 1, 1) := by decide +kernel
theorem d29_16 : decode jdk_65_method_133_code 16 = .ok (.aload 4, 2) := by decide +kernel
theorem d29_18 : decode jdk_65_method_133_code 18 = .ok (.iconst 0, 1) := by decide +kernel
theorem d29_19 : decode jdk_65_method_133_code 19 = .ok (.aload_n 0, 1) := by decide +kernel
theorem d29_20 : decode jdk_65_method_133_code 20 = .ok (.arraylength, 1) := by decide +kernel
theorem d29_21 : decode jdk_65_method_133_code 21 = .ok (.iload_n 1, 1) := by decide +kernel
theorem d29_22 : decode jdk_65_method_133_code 22 = .ok (.isub, 1) := by decide +kernel
theorem d29_23 : decode jdk_65_method_133_code 23 = .ok (.iload_n 3, 1) := by decide +kernel
theorem d29_24 : decode jdk_65_method_133_code 24 = .ok (.invokestatic 304, 3) := by decide +kernel
theorem d29_27 : decode jdk_65_method_133_code 27 = .ok (.invokestatic 150, 3) := by decide +kernel
theorem d29_30 : decode jdk_65_method_133_code 30 = .ok (.aload 4, 2) := by decide +kernel
theorem d29_32 : decode jdk_65_method_133_code 32 = .ok (.areturn, 1) := by decide +kernel
abbrev own_m66 : MethodName := (⟨"java/util/Arrays", "copyOfRangeByte", "([BII)[B"⟩ : MethodName)
theorem ef_rm_corb_57 (m : MethodId) (va : Addr) : entryFrame m #[(.ref va), (.int (0 : Int32)), (.int (57 : Int32))] 5 = mkF m 0 #[rv va, iv (0 : Int32), iv (57 : Int32), .unset, .unset] [] := by first | (simp [entryFrame, mkF, argsToLocals, Value.category]; done) | rfl
theorem pn67 : plainFor (⟨"java/util/Arrays", "copyOfRangeByte", "([BII)[B"⟩ : MethodName) = true := by first | exact plainFor_of_name (by first | (simp [plainName, overriddenIn]; done) | decide +kernel) | decide +kernel
set_option maxRecDepth 65536 in
set_option maxHeartbeats 40000000 in
theorem rm_corb_57 {l : Launch} {Z : State} {a0 : Array Value} {A : Nat → Addr} {KC : Nat → Cell} {IC : Nat → Int32} {VC : Nat → Value} (hw : ∀ d ∈ tables_1, d.before a0 Z = true) (G : own_Ctx Z A KC IC VC) (va : Addr) (kv : ClassId) (bs : List Int32) (h0 : Heap) (O0 : Ext Z.heap h0) (prem0 : bs.length = 57) (prem1 : Arv Z h0 va kv .byte (70 : Int32) (bs.map Value.int) (.int (0 : Int32))) :
    Ok l Z own_m66 jdk_65_method_133_code 5 (some (.array .byte)) ({ frames := 1, cells := 1, slots := 57, locals := 18 } : Room) #[(.ref va), (.int (0 : Int32)), (.int (57 : Int32))] h0
      (fun v h L => ∃ vb : Addr, ∃ kb : ClassId, v = some (.ref vb) ∧ (Fr Z.heap.size L) ∧ (Keep h0 h []) ∧ (h0.size ≤ vb) ∧ (Arv Z h vb kb .byte (57 : Int32) (bs.map Value.int) (.int (0 : Int32))) ∧ (Exa Z h vb "[B")) := by
  refine Ok.mk pn67 ?_
  intro p e s m below meth c T0 hx hby hml hown hnm hret hlk hZ e0 X0
  refine Go.cast (ef_rm_corb_57 m va) ?_
  have D := @hb _ _ hby
  have N0 := Fr.nil Z.heap.size
  have K0 : Keep h0 h0 [] := Keep.refl _ _
  obtain ⟨T383, v383, L383, X383, q383, st383⟩ := callSt X0 hx hZ (y := own_m63) hown (own_w hw (i := 176) rfl) (own_w hw (i := 177) rfl) (own_w hw (i := 122) rfl) (own_w hw (i := 178) rfl) (by decide) (rm_ckl_57 hw G   h0 O0 ) e0 (W := 0) (by decide) (by decide) (by decide) (by decide) (g := (mkF m 2 #[rv va, iv 0, iv 57, .unset, .unset] [(.int 57), (.int 0)])) rfl (by rw [hml]; rfl) (argsL := [(.int 0), (.int 57)]) (rest := []) (lenOf pd65 rfl) rfl rfl (Nat.le_of_eq rfl) (D d29_2)
  obtain ⟨rfl, e383, rfl⟩ := q383
  have N383 := Fr.app N0 (Fr.nil _)
  obtain ⟨T384, h384, k384, b384, q384, X384, e384, E384, V384, A384, st384⟩ := newAr X383 hx hZ (own_w hw (i := 6) rfl) e383 (g := (mkF m 10 #[rv va, iv 0, iv 57, iv 57, .unset] [(.int 57)])) rfl (D d29_10) rfl (by decide) (cap := 57) (by decide) (by decide) (by decide) (by decide) (ad := "[B") (by decide)
  have O385 := Old0.ext O0 E384
  have K385 := Keep.ext K0 E384
  have g_b384 : Z.heap.size ≤ b384 := q384 ▸ O0.1
  have z_b384 : h0.size ≤ b384 := q384 ▸ K0.1
  have ne_va_b384 : va ≠ b384 := q384 ▸ Nat.ne_of_lt prem1.lt
  have f386 : Arv Z h384 b384 k384 .byte (57 : Int32) [(.int 0), (.int 0), (.int 0), (.int 0), (.int 0), (.int 0), (.int 0), (.int 0), (.int 0), (.int 0), (.int 0), (.int 0), (.int 0), (.int 0), (.int 0), (.int 0), (.int 0), (.int 0), (.int 0), (.int 0), (.int 0), (.int 0), (.int 0), (.int 0), (.int 0), (.int 0), (.int 0), (.int 0), (.int 0), (.int 0), (.int 0), (.int 0), (.int 0), (.int 0), (.int 0), (.int 0), (.int 0), (.int 0), (.int 0), (.int 0), (.int 0), (.int 0), (.int 0), (.int 0), (.int 0), (.int 0), (.int 0), (.int 0), (.int 0), (.int 0), (.int 0), (.int 0), (.int 0), (.int 0), (.int 0), (.int 0), (.int 0)] (.int 0) := Arv.pad V384 (pad_rep [] (.int 0) 57)
  have fz387 : Arv Z h384 b384 k384 .byte (57 : Int32) (([] : List Int32).map Value.int) (.int 0) := Arv.pad f386 (fun i => (pad_rep [] (.int 0) 57 i).symm)
  have f389 : Arv Z h384 va kv .byte (70 : Int32) (bs.map Value.int) (.int 0) := (Arv.ext prem1 E384)
  obtain ⟨cl388, Ar388, qk388, S388, Ng388, H388, G388⟩ := id f389
  obtain ⟨T390, v390, L390, X390, q390, st390⟩ := callSt X384 hx hZ (y := own_m45) hown (own_w hw (i := 124) rfl) (own_w hw (i := 125) rfl) (own_w hw (i := 116) rfl) (own_w hw (i := 126) rfl) (by decide) (rm_min_70_57 hw G   h384 O385 ) e384 (W := 4) (by decide) (by decide) (by decide) (by decide) (g := (mkF m 24 #[rv va, iv 0, iv 57, iv 57, rv b384] [(.int 57), (.int 70), (.int 0), (.ref b384), (.int 0), (.ref va)])) rfl (by rw [hml]; rfl) (argsL := [(.int 70), (.int 57)]) (rest := [(.int 0), (.ref b384), (.int 0), (.ref va)]) (lenOf pd39 rfl) rfl rfl (Nat.le_of_eq rfl) (D d29_24)
  obtain ⟨rfl, e390, rfl⟩ := q390
  have N390 := Fr.app N383 (Fr.nil _)
  obtain ⟨T391, h391, L391, X391, e391, N391, Kq391, V391, st391⟩ := own_cpG X390 hx hZ hown (own_w hw (i := 127) rfl) (own_w hw (i := 86) rfl) (own_w hw (i := 84) rfl) (own_w hw (i := 85) rfl) e390 f389 fz387 (dp := (0 : Int32)) (nn := (57 : Int32)) (by decide) (by decide) (by decide) (by rw [prem0]; decide) (by decide) (by decide) N390 g_b384 (g := (mkF m 27 #[rv va, iv 0, iv 57, iv 57, rv b384] [(.int 57), (.int 0), (.ref b384), (.int 0), (.ref va)])) rfl (by rw [hml]; rfl) rfl (D d29_27) (by decide) (W := 0) (Nat.le_of_eq rfl) (by decide)
  have O392 := Old0.keep O385 Kq391 (allS g_b384 all0)
  have K392 := Keep.trans K385 Kq391 (allS (Or.inr z_b384) all0)
  have f393 : Exa Z h391 b384 "[B" := (Exa.keep A384 Kq391)
  refine Go.of (T' := T391) (f' := (mkF m 32 #[rv va, iv 0, iv 57, iv 57, rv b384] [(.ref b384)])) (fun _ k => XS.iloadN X0.here hx rfl (D d29_0) rfl (XS.iloadN X0.here hx rfl (D d29_1) rfl (st383 _ (XS.iloadN X383.here hx rfl (D d29_5) rfl (XS.iloadN X383.here hx rfl (D d29_6) rfl (XS.isub X383.here hx rfl (D d29_7) rfl (XS.istoreN X383.here hx rfl (D d29_8) rfl (l' := #[rv va, iv 0, iv 57, iv 57, .unset]) rfl (XS.iloadN X383.here hx rfl (D d29_9) rfl (st384 _ (XS.astore X384.here hx rfl (D d29_12) rfl rfl (l' := #[rv va, iv 0, iv 57, iv 57, rv b384]) rfl (XS.aloadN X384.here hx rfl (D d29_14) rfl rfl (XS.iloadN X384.here hx rfl (D d29_15) rfl (XS.aload X384.here hx rfl (D d29_16) rfl rfl (XS.iconst X384.here hx rfl (D d29_18) (XS.aloadN X384.here hx rfl (D d29_19) rfl rfl (X384.arraylength hx (by rw [e384]; exact Ar388.1) (State.isArrayOf_alike hZ.alike Ar388.2.1) (g := (mkF m 20 #[rv va, iv 0, iv 57, iv 57, rv b384] [(.ref va), (.int 0), (.ref b384), (.int 0), (.ref va)])) rfl rfl (D d29_20) _ (by rw [len_of S388 Ng388]; exact (XS.iloadN X384.here hx rfl (D d29_21) rfl (XS.isub X384.here hx rfl (D d29_22) rfl (XS.iloadN X384.here hx rfl (D d29_23) rfl (st390 _ (st391 _ (XS.aload X391.here hx rfl (D d29_30) rfl rfl k))))))))))))))))))))))) ?_
  exact Go.retA X391 hx hlk hret rfl rfl (D d29_32) (by decide) (by decide) (by rw [e391]; exact ⟨b384, k384, rfl, N391, K392, z_b384, V391, f393⟩)
theorem d28_0 : decode jdk_65_method_132_code 0 = .ok (.iload_n 1, 1) := by decide +kernel
theorem d28_1 : decode jdk_65_method_132_code 1 = .ok (.ifCond .ne 9, 3) := by decide +kernel
theorem d28_4 : decode jdk_65_method_132_code 4 = .ok (.iload_n 2, 1) := by decide +kernel
theorem d28_5 : decode jdk_65_method_132_code 5 = .ok (.aload_n 0, 1) := by decide +kernel
theorem d28_6 : decode jdk_65_method_132_code 6 = .ok (.arraylength, 1) := by decide +kernel
theorem d28_7 : decode jdk_65_method_132_code 7 = .ok (.if_icmp .eq 10, 3) := by decide +kernel
theorem d28_10 : decode jdk_65_method_132_code 10 = .ok (.aload_n 0, 1) := by decide +kernel
theorem d28_11 : decode jdk_65_method_132_code 11 = .ok (.iload_n 1, 1) := by decide +kernel
theorem d28_12 : decode jdk_65_method_132_code 12 = .ok (.iload_n 2, 1) := by decide +kernel
theorem d28_13 : decode jdk_65_method_132_code 13 = .ok (.invokestatic 339, 3) := by decide +kernel
theorem pd68 : parseMethodDescriptor "([BII)[B" = some ⟨[(.array .byte), .int, .int], some (.array .byte)⟩ := by decide +kernel
theorem d28_16 : decode jdk_65_method_132_code 16 = .ok (.areturn, 1) := by decide +kernel
abbrev own_m69 : MethodName := (⟨"java/util/Arrays", "copyOfRange", "([BII)[B"⟩ : MethodName)
theorem ef_rm_cor_57 (m : MethodId) (va : Addr) : entryFrame m #[(.ref va), (.int (0 : Int32)), (.int (57 : Int32))] 3 = mkF m 0 #[rv va, iv (0 : Int32), iv (57 : Int32)] [] := by first | (simp [entryFrame, mkF, argsToLocals, Value.category]; done) | rfl
theorem pn70 : plainFor (⟨"java/util/Arrays", "copyOfRange", "([BII)[B"⟩ : MethodName) = true := by first | exact plainFor_of_name (by first | (simp [plainName, overriddenIn]; done) | decide +kernel) | decide +kernel
set_option maxRecDepth 65536 in
set_option maxHeartbeats 40000000 in
theorem rm_cor_57 {l : Launch} {Z : State} {a0 : Array Value} {A : Nat → Addr} {KC : Nat → Cell} {IC : Nat → Int32} {VC : Nat → Value} (hw : ∀ d ∈ tables_1, d.before a0 Z = true) (G : own_Ctx Z A KC IC VC) (va : Addr) (kv : ClassId) (bs : List Int32) (h0 : Heap) (O0 : Ext Z.heap h0) (prem0 : bs.length = 57) (prem1 : Arv Z h0 va kv .byte (70 : Int32) (bs.map Value.int) (.int (0 : Int32))) :
    Ok l Z own_m69 jdk_65_method_132_code 3 (some (.array .byte)) ({ frames := 2, cells := 1, slots := 57, locals := 34 } : Room) #[(.ref va), (.int (0 : Int32)), (.int (57 : Int32))] h0
      (fun v h L => ∃ vb : Addr, ∃ kb : ClassId, v = some (.ref vb) ∧ (Fr Z.heap.size L) ∧ (Keep h0 h []) ∧ (h0.size ≤ vb) ∧ (Arv Z h vb kb .byte (57 : Int32) (bs.map Value.int) (.int (0 : Int32))) ∧ (Exa Z h vb "[B")) := by
  refine Ok.mk pn70 ?_
  intro p e s m below meth c T0 hx hby hml hown hnm hret hlk hZ e0 X0
  refine Go.cast (ef_rm_cor_57 m va) ?_
  have D := @hb _ _ hby
  have N0 := Fr.nil Z.heap.size
  have K0 : Keep h0 h0 [] := Keep.refl _ _
  obtain ⟨cl395, Ar395, qk395, S395, Ng395, H395, G395⟩ := id prem1
  obtain ⟨T397, v397, L397, X397, q397, st397⟩ := callSt X0 hx hZ (y := own_m66) hown (own_w hw (i := 173) rfl) (own_w hw (i := 174) rfl) (own_w hw (i := 122) rfl) (own_w hw (i := 175) rfl) (by decide) (rm_corb_57 hw G va kv bs h0 O0 (prem0) prem1) e0 (W := 0) (by decide) (by decide) (by decide) (by decide) (g := (mkF m 13 #[rv va, iv 0, iv 57] [(.int 57), (.int 0), (.ref va)])) rfl (by rw [hml]; rfl) (argsL := [(.ref va), (.int 0), (.int 57)]) (rest := []) (lenOf pd68 rfl) rfl rfl (Nat.le_of_eq rfl) (D d28_13)
  obtain ⟨vb_397, kb_397, rfl, N397q, K397q, p397_0, p397_1, p397_2⟩ := q397
  have N397 := Fr.app N0 N397q
  have O398 := Old0.keep O0 K397q all0
  have K398 := Keep.trans K0 K397q all0
  have z_vb_397 : h0.size ≤ vb_397 := Nat.le_trans K0.1 p397_0
  have g_vb_397 : Z.heap.size ≤ vb_397 := Nat.le_trans O0.1 p397_0
  have ne_va_vb_397 : va ≠ vb_397 := Nat.ne_of_lt (Nat.lt_of_lt_of_le prem1.lt p397_0)
  refine Go.of (T' := T397) (f' := (mkF m 16 #[rv va, iv 0, iv 57] [(.ref vb_397)])) (fun _ k => XS.iloadN X0.here hx rfl (D d28_0) rfl (XS.ifNo X0.here hx rfl (D d28_1) rfl ((if0 _ _).trans (teq (by decide : (0 : Int32) = (0 : Int32))).2) (XS.iloadN X0.here hx rfl (D d28_4) rfl (XS.aloadN X0.here hx rfl (D d28_5) rfl rfl (X0.arraylength hx (by rw [e0]; exact Ar395.1) (State.isArrayOf_alike hZ.alike Ar395.2.1) (g := (mkF m 6 #[rv va, iv 0, iv 57] [(.ref va), (.int 57)])) rfl rfl (D d28_6) _ (by rw [len_of S395 Ng395]; exact (XS.icmpNo X0.here hx rfl (D d28_7) rfl (feq (by decide : ¬ ((57 : Int32) = (70 : Int32)))).1 (XS.aloadN X0.here hx rfl (D d28_10) rfl rfl (XS.iloadN X0.here hx rfl (D d28_11) rfl (XS.iloadN X0.here hx rfl (D d28_12) rfl (st397 _ k))))))))))) ?_
  exact Go.retA X397 hx hlk hret rfl rfl (D d28_16) (by decide) (by decide) ⟨vb_397, kb_397, rfl, N397, K398, z_vb_397, p397_1, p397_2⟩
theorem d24_0 : decode jdk_42_method_150_code 0 = .ok (.aload_n 0, 1) := by decide +kernel
theorem d24_1 : decode jdk_42_method_150_code 1 = .ok (.invokespecial 1, 3) := by decide +kernel
theorem d24_4 : decode jdk_42_method_150_code 4 = .ok (.aload_n 1, 1) := by decide +kernel
theorem d24_5 : decode jdk_42_method_150_code 5 = .ok (.invokevirtual 552, 3) := by decide +kernel
theorem pd71 : parseMethodDescriptor "()[B" = some ⟨[], some (.array .byte)⟩ := by decide +kernel
theorem d24_8 : decode jdk_42_method_150_code 8 = .ok (.astore_n 3, 1) := by decide +kernel
theorem d24_9 : decode jdk_42_method_150_code 9 = .ok (.aload_n 1, 1) := by decide +kernel
theorem d24_10 : decode jdk_42_method_150_code 10 = .ok (.invokevirtual 549, 3) := by decide +kernel
theorem d24_13 : decode jdk_42_method_150_code 13 = .ok (.istore 4, 2) := by decide +kernel
theorem d24_15 : decode jdk_42_method_150_code 15 = .ok (.aload_n 1, 1) := by decide +kernel
theorem d24_16 : decode jdk_42_method_150_code 16 = .ok (.invokevirtual 1047, 3) := by decide +kernel
theorem d24_19 : decode jdk_42_method_150_code 19 = .ok (.ifCond .eq 22, 3) := by decide +kernel
theorem d24_22 : decode jdk_42_method_150_code 22 = .ok (.aload_n 0, 1) := by decide +kernel
theorem d24_23 : decode jdk_42_method_150_code 23 = .ok (.iconst 0, 1) := by decide +kernel
theorem d24_24 : decode jdk_42_method_150_code 24 = .ok (.putfield 15, 3) := by decide +kernel
theorem d24_27 : decode jdk_42_method_150_code 27 = .ok (.aload_n 0, 1) := by decide +kernel
theorem d24_28 : decode jdk_42_method_150_code 28 = .ok (.aload_n 3, 1) := by decide +kernel
theorem d24_29 : decode jdk_42_method_150_code 29 = .ok (.iconst 0, 1) := by decide +kernel
theorem d24_30 : decode jdk_42_method_150_code 30 = .ok (.iload 4, 2) := by decide +kernel
theorem d24_32 : decode jdk_42_method_150_code 32 = .ok (.invokestatic 54, 3) := by decide +kernel
theorem d24_35 : decode jdk_42_method_150_code 35 = .ok (.putfield 9, 3) := by decide +kernel
theorem d24_38 : decode jdk_42_method_150_code 38 = .ok (.goto 59, 3) := by decide +kernel
theorem d24_97 : decode jdk_42_method_150_code 97 = .ok (.return_, 1) := by decide +kernel
abbrev own_m72 : MethodName := (⟨"java/lang/String", "<init>", "(Ljava/lang/AbstractStringBuilder;Ljava/lang/Void;)V"⟩ : MethodName)
theorem ef_rm_si1_57 (m : MethodId) (so : Addr) (ob : Addr) : entryFrame m #[(.ref so), (.ref ob), .null] 5 = mkF m 0 #[rv so, rv ob, .val .null, .unset, .unset] [] := by first | (simp [entryFrame, mkF, argsToLocals, Value.category]; done) | rfl
theorem pn73 : plainFor (⟨"java/lang/String", "<init>", "(Ljava/lang/AbstractStringBuilder;Ljava/lang/Void;)V"⟩ : MethodName) = true := by first | exact plainFor_of_name (by first | (simp [plainName, overriddenIn]; done) | decide +kernel) | decide +kernel
set_option maxRecDepth 65536 in
set_option maxHeartbeats 40000000 in
theorem rm_si1_57 {l : Launch} {Z : State} {a0 : Array Value} {A : Nat → Addr} {KC : Nat → Cell} {IC : Nat → Int32} {VC : Nat → Value} (hw : ∀ d ∈ tables_1, d.before a0 Z = true) (G : own_Ctx Z A KC IC VC) (so : Addr) (ob : Addr) (va : Addr) (kv : ClassId) (bs : List Int32) (h0 : Heap) (O0 : Ext Z.heap h0) (prem0 : bs.length = 57) (prem1 : Exa Z h0 so "java/lang/String") (prem2 : Fld Z h0 so "java/lang/String" "value" "[B" .null) (prem3 : Fld Z h0 so "java/lang/String" "coder" "B" (.int (0 : Int32))) (prem4 : Z.heap.size ≤ so) (prem5 : Exa Z h0 ob "java/lang/StringBuilder") (prem6 : Fld Z h0 ob "java/lang/AbstractStringBuilder" "value" "[B" (.ref va)) (prem7 : Fld Z h0 ob "java/lang/AbstractStringBuilder" "coder" "B" (.int (0 : Int32))) (prem8 : Fld Z h0 ob "java/lang/AbstractStringBuilder" "count" "I" (.int (57 : Int32))) (prem9 : Arv Z h0 va kv .byte (70 : Int32) (bs.map Value.int) (.int (0 : Int32))) (prem10 : so ≠ ob) (prem11 : so ≠ va) :
    Ok l Z own_m72 jdk_42_method_150_code 5 none ({ frames := 3, cells := 1, slots := 57, locals := 49 } : Room) #[(.ref so), (.ref ob), .null] h0
      (fun v h L => ∃ vb : Addr, ∃ kb : ClassId, v = none ∧ (Fr Z.heap.size L) ∧ (Keep h0 h [so]) ∧ (h0.size ≤ vb) ∧ (Fld Z h so "java/lang/String" "value" "[B" (.ref vb)) ∧ (Fld Z h so "java/lang/String" "coder" "B" (.int (0 : Int32))) ∧ (Arv Z h vb kb .byte (57 : Int32) (bs.map Value.int) (.int (0 : Int32)))) := by
  refine Ok.mk pn73 ?_
  intro p e s m below meth c T0 hx hby hml hown hnm hret hlk hZ e0 X0
  refine Go.cast (ef_rm_si1_57 m so ob) ?_
  have D := @hb _ _ hby
  have N0 := Fr.nil Z.heap.size
  have K0 : Keep h0 h0 [so] := Keep.refl _ _
  obtain ⟨T399, X399, e399, st399⟩ := initO X0 hx hZ hown (own_w hw (i := 155) rfl) (own_w hw (i := 29) rfl) (own_w hw (i := 30) rfl) e0 (g := (mkF m 1 #[rv so, rv ob, .val .null, .unset, .unset] [(.ref so)])) rfl (by rw [hml]; rfl) rfl (D d24_1) (by decide) (W := 0) (Nat.le_of_eq rfl) (by decide)
  obtain ⟨T400, v400, L400, X400, q400, st400⟩ := callVi X399 hx hZ (y := own_m16) (z := own_m16) hown (own_w hw (i := 156) rfl) (own_w hw (i := 157) rfl) (notFace_of_selects (args := #[]) (mvT hZ (own_w hw (i := 159) rfl))) (own_w hw (i := 159) rfl) (own_w hw (i := 158) rfl) (own_w hw (i := 160) rfl) (own_w hw (i := 26) rfl) (by decide) (rm_gv hw G ob va h0 O0 prem6) e399 (W := 0) (by decide) (by decide) (by decide) (by decide) prem5 (g := (mkF m 5 #[rv so, rv ob, .val .null, .unset, .unset] [(.ref ob)])) rfl (by rw [hml]; rfl) (argsL := []) (rest := []) (lenOf pd71 rfl) rfl rfl (Nat.le_of_eq rfl) (D d24_5)
  obtain ⟨rfl, e400, rfl⟩ := q400
  have N400 := Fr.app N0 (Fr.nil _)
  obtain ⟨T401, v401, L401, X401, q401, st401⟩ := callVi X400 hx hZ (y := own_m59) (z := own_m61) hown (own_w hw (i := 161) rfl) (own_w hw (i := 162) rfl) (nf_mate (args := #[]) (mvT hZ (own_w hw (i := 65) rfl)) rfl) (own_w hw (i := 164) rfl) (own_w hw (i := 165) rfl) (own_w hw (i := 166) rfl) (own_w hw (i := 18) rfl) (by decide) (rm_sll_57 hw G ob  h0 O0 prem5 prem8) e400 (W := 0) (by decide) (by decide) (by decide) (by decide) prem5 (g := (mkF m 10 #[rv so, rv ob, .val .null, rv va, .unset] [(.ref ob)])) rfl (by rw [hml]; rfl) (argsL := []) (rest := []) (lenOf pd31 rfl) rfl rfl (Nat.le_of_eq rfl) (D d24_10)
  obtain ⟨rfl, e401, rfl⟩ := q401
  have N401 := Fr.app N400 (Fr.nil _)
  obtain ⟨T402, v402, L402, X402, q402, st402⟩ := callVi X401 hx hZ (y := own_m14) (z := own_m14) hown (own_w hw (i := 169) rfl) (own_w hw (i := 129) rfl) (notFace_of_selects (args := #[]) (mvT hZ (own_w hw (i := 131) rfl))) (own_w hw (i := 131) rfl) (own_w hw (i := 130) rfl) (own_w hw (i := 132) rfl) (own_w hw (i := 26) rfl) (by decide) (rm_lat hw G ob  h0 O0 prem7) e401 (W := 0) (by decide) (by decide) (by decide) (by decide) prem5 (g := (mkF m 16 #[rv so, rv ob, .val .null, rv va, iv 57] [(.ref ob)])) rfl (by rw [hml]; rfl) (argsL := []) (rest := []) (lenOf pd52 rfl) rfl rfl (Nat.le_of_eq rfl) (D d24_16)
  obtain ⟨rfl, e402, rfl⟩ := q402
  have N402 := Fr.app N401 (Fr.nil _)
  obtain ⟨T404, h404, X404, e404, W404, st404⟩ := putFN X402 hx hZ hown (own_w hw (i := 59) rfl) Via.refl e402 prem3 prem1 (Or.inr ⟨(own_w hw (i := 8) rfl), rfl, hnm⟩) (own_w hw (i := 5) rfl) (ty := .byte) (v' := (.int 0)) (by decide) rfl rfl (g := (mkF m 24 #[rv so, rv ob, .val .null, rv va, iv 57] [(.int 0), (.ref so)])) rfl rfl (D d24_24)
  have O405 := Old0.wr O0 W404 prem4
  have K405 := Keep.wr K0 W404 (Or.inl (List.mem_of_getElem? (i := 0) rfl))
  have N404 := Fr.snoc X404 N402 prem4
  have f404 : Fld Z h404 so "java/lang/String" "coder" "B" (.int 0) := Fld.same W404 prem3
  have f407 : Arv Z h404 va kv .byte (70 : Int32) (bs.map Value.int) (.int 0) := (Arv.other prem9 W404 (Ne.symm prem11))
  have f408 : Exa Z h404 so "java/lang/String" := (Exa.wr W404 prem1)
  have f409 : Exa Z h404 ob "java/lang/StringBuilder" := (Exa.wr W404 prem5)
  obtain ⟨T406, v406, L406, X406, q406, st406⟩ := callSt X404 hx hZ (y := own_m69) hown (own_w hw (i := 170) rfl) (own_w hw (i := 171) rfl) (own_w hw (i := 122) rfl) (own_w hw (i := 172) rfl) (by decide) (rm_cor_57 hw G va kv bs h404 O405 (prem0) f407) e404 (W := 1) (by decide) (by decide) (by decide) (by decide) (g := (mkF m 32 #[rv so, rv ob, .val .null, rv va, iv 57] [(.int 57), (.int 0), (.ref va), (.ref so)])) rfl (by rw [hml]; rfl) (argsL := [(.ref va), (.int 0), (.int 57)]) (rest := [(.ref so)]) (lenOf pd68 rfl) rfl rfl (Nat.le_of_eq rfl) (D d24_32)
  obtain ⟨vb_406, kb_406, rfl, N406q, K406q, p406_0, p406_1, p406_2⟩ := q406
  have N406 := Fr.app N404 N406q
  have O410 := Old0.keep O405 K406q all0
  have K410 := Keep.trans K405 K406q all0
  have z_vb_406 : h0.size ≤ vb_406 := Nat.le_trans K405.1 p406_0
  have g_vb_406 : Z.heap.size ≤ vb_406 := Nat.le_trans O405.1 p406_0
  have ne_so_vb_406 : so ≠ vb_406 := Nat.ne_of_lt (Nat.lt_of_lt_of_le f408.lt p406_0)
  have ne_ob_vb_406 : ob ≠ vb_406 := Nat.ne_of_lt (Nat.lt_of_lt_of_le f409.lt p406_0)
  have ne_va_vb_406 : va ≠ vb_406 := Nat.ne_of_lt (Nat.lt_of_lt_of_le f407.lt p406_0)
  have f412 : Exa Z T406.heap so "java/lang/String" := (Exa.keep f408 K406q)
  have f413 : Fld Z T406.heap so "java/lang/String" "value" "[B" .null := (Fld.keep (Fld.other W404 prem2 (Or.inr (slot_ne (Or.inr (own_w hw (i := 7) rfl)) (Or.inr (own_w hw (i := 8) rfl)) (by decide) (t := (.array .byte)) (t' := .byte) (by decide) (by decide)))) K406q nin0)
  obtain ⟨T411, h411, X411, e411, W411, st411⟩ := putF X406 hx hZ hown (host := "") (Or.inl (own_w hw (i := 52) rfl)) Via.refl rfl f413 f412 (Or.inr ⟨(own_w hw (i := 7) rfl), rfl, hnm⟩) (own_w hw (i := 5) rfl) (ty := (.array .byte)) (by decide) rfl rfl (g := (mkF m 35 #[rv so, rv ob, .val .null, rv va, iv 57] [(.ref vb_406), (.ref so)])) rfl rfl (D d24_35)
  have O414 := Old0.wr O410 W411 prem4
  have K414 := Keep.wr K410 W411 (Or.inl (List.mem_of_getElem? (i := 0) rfl))
  have N411 := Fr.snoc X411 N406 prem4
  have f411 : Fld Z h411 so "java/lang/String" "value" "[B" (.ref vb_406) := Fld.same W411 f413
  have f415 : Fld Z h411 so "java/lang/String" "coder" "B" (.int 0) := (Fld.other W411 (Fld.keep f404 K406q nin0) (Or.inr (slot_ne (Or.inr (own_w hw (i := 8) rfl)) (Or.inr (own_w hw (i := 7) rfl)) (by decide) (t := .byte) (t' := (.array .byte)) (by decide) (by decide))))
  have f416 : Arv Z h411 vb_406 kb_406 .byte (57 : Int32) (bs.map Value.int) (.int 0) := (Arv.other p406_1 W411 (Ne.symm ne_so_vb_406))
  refine Go.of (T' := T411) (f' := (mkF m 97 #[rv so, rv ob, .val .null, rv va, iv 57] [])) (fun _ k => XS.aloadN X0.here hx rfl (D d24_0) rfl rfl (st399 _ (XS.aloadN X399.here hx rfl (D d24_4) rfl rfl (st400 _ (XS.astoreN X400.here hx rfl (D d24_8) rfl rfl (l' := #[rv so, rv ob, .val .null, rv va, .unset]) rfl (XS.aloadN X400.here hx rfl (D d24_9) rfl rfl (st401 _ (XS.istore X401.here hx rfl (D d24_13) rfl (l' := #[rv so, rv ob, .val .null, rv va, iv 57]) rfl (XS.aloadN X401.here hx rfl (D d24_15) rfl rfl (st402 _ (XS.ifNo X402.here hx rfl (D d24_19) rfl ((if0 _ _).trans (feq (by decide : ¬ ((1 : Int32) = (0 : Int32)))).1) (XS.aloadN X402.here hx rfl (D d24_22) rfl rfl (XS.iconst X402.here hx rfl (D d24_23) (st404 _ (XS.aloadN X404.here hx rfl (D d24_27) rfl rfl (XS.aloadN X404.here hx rfl (D d24_28) rfl rfl (XS.iconst X404.here hx rfl (D d24_29) (XS.iload X404.here hx rfl (D d24_30) rfl (st406 _ (st411 _ (XS.goto X411.here hx rfl (pc0 := 38) (pc' := 97) rfl (D d24_38) (by decide) (by decide) k))))))))))))))))))))) ?_
  exact Go.retV X411 hx hlk hret (D d24_97) (by decide) (by decide) (by rw [e411]; exact ⟨vb_406, kb_406, rfl, N411, K414, z_vb_406, f411, f415, f416⟩)
theorem d23_0 : decode jdk_42_method_53_code 0 = .ok (.aload_n 0, 1) := by decide +kernel
theorem d23_1 : decode jdk_42_method_53_code 1 = .ok (.aload_n 1, 1) := by decide +kernel
theorem d23_2 : decode jdk_42_method_53_code 2 = .ok (.aconst_null, 1) := by decide +kernel
theorem d23_3 : decode jdk_42_method_53_code 3 = .ok (.invokespecial 489, 3) := by decide +kernel
theorem pd74 : parseMethodDescriptor "(Ljava/lang/AbstractStringBuilder;Ljava/lang/Void;)V" = some ⟨[(.object "java/lang/AbstractStringBuilder"), (.object "java/lang/Void")], none⟩ := by decide +kernel
theorem d23_6 : decode jdk_42_method_53_code 6 = .ok (.return_, 1) := by decide +kernel
abbrev own_m75 : MethodName := (⟨"java/lang/String", "<init>", "(Ljava/lang/StringBuilder;)V"⟩ : MethodName)
theorem ef_rm_si2_57 (m : MethodId) (so : Addr) (ob : Addr) : entryFrame m #[(.ref so), (.ref ob)] 2 = mkF m 0 #[rv so, rv ob] [] := by first | (simp [entryFrame, mkF, argsToLocals, Value.category]; done) | rfl
theorem pn76 : plainFor (⟨"java/lang/String", "<init>", "(Ljava/lang/StringBuilder;)V"⟩ : MethodName) = true := by first | exact plainFor_of_name (by first | (simp [plainName, overriddenIn]; done) | decide +kernel) | decide +kernel
set_option maxRecDepth 65536 in
set_option maxHeartbeats 40000000 in
theorem rm_si2_57 {l : Launch} {Z : State} {a0 : Array Value} {A : Nat → Addr} {KC : Nat → Cell} {IC : Nat → Int32} {VC : Nat → Value} (hw : ∀ d ∈ tables_1, d.before a0 Z = true) (G : own_Ctx Z A KC IC VC) (so : Addr) (ob : Addr) (va : Addr) (kv : ClassId) (bs : List Int32) (h0 : Heap) (O0 : Ext Z.heap h0) (prem0 : bs.length = 57) (prem1 : Exa Z h0 so "java/lang/String") (prem2 : Fld Z h0 so "java/lang/String" "value" "[B" .null) (prem3 : Fld Z h0 so "java/lang/String" "coder" "B" (.int (0 : Int32))) (prem4 : Z.heap.size ≤ so) (prem5 : Exa Z h0 ob "java/lang/StringBuilder") (prem6 : Fld Z h0 ob "java/lang/AbstractStringBuilder" "value" "[B" (.ref va)) (prem7 : Fld Z h0 ob "java/lang/AbstractStringBuilder" "coder" "B" (.int (0 : Int32))) (prem8 : Fld Z h0 ob "java/lang/AbstractStringBuilder" "count" "I" (.int (57 : Int32))) (prem9 : Arv Z h0 va kv .byte (70 : Int32) (bs.map Value.int) (.int (0 : Int32))) (prem10 : so ≠ ob) (prem11 : so ≠ va) :
    Ok l Z own_m75 jdk_42_method_53_code 2 none ({ frames := 4, cells := 1, slots := 57, locals := 65 } : Room) #[(.ref so), (.ref ob)] h0
      (fun v h L => ∃ vb : Addr, ∃ kb : ClassId, v = none ∧ (Fr Z.heap.size L) ∧ (Keep h0 h [so]) ∧ (h0.size ≤ vb) ∧ (Fld Z h so "java/lang/String" "value" "[B" (.ref vb)) ∧ (Fld Z h so "java/lang/String" "coder" "B" (.int (0 : Int32))) ∧ (Arv Z h vb kb .byte (57 : Int32) (bs.map Value.int) (.int (0 : Int32)))) := by
  refine Ok.mk pn76 ?_
  intro p e s m below meth c T0 hx hby hml hown hnm hret hlk hZ e0 X0
  refine Go.cast (ef_rm_si2_57 m so ob) ?_
  have D := @hb _ _ hby
  have N0 := Fr.nil Z.heap.size
  have K0 : Keep h0 h0 [so] := Keep.refl _ _
  obtain ⟨T417, v417, L417, X417, q417, st417⟩ := callNew X0 hx hZ (y := own_m72) rfl hown (own_w hw (i := 152) rfl) (own_w hw (i := 153) rfl) (own_w hw (i := 4) rfl) (own_w hw (i := 154) rfl) (by decide) (rm_si1_57 hw G so ob va kv bs h0 O0 (prem0) prem1 prem2 prem3 prem4 prem5 prem6 prem7 prem8 prem9 prem10 prem11) e0 (W := 0) (by decide) (by decide) (by decide) (by decide) (g := (mkF m 3 #[rv so, rv ob] [.null, (.ref ob), (.ref so)])) rfl (by rw [hml]; rfl) (a := so) (argsL := [(.ref ob), .null]) (rest := []) (lenOf pd74 rfl) rfl rfl (Nat.le_of_eq rfl) (D d23_3)
  obtain ⟨vb_417, kb_417, rfl, N417q, K417q, p417_0, p417_1, p417_2, p417_3⟩ := q417
  have N417 := Fr.app N0 N417q
  have O418 := Old0.keep O0 K417q (allS prem4 all0)
  have K418 := Keep.trans K0 K417q (allS (Or.inl (List.mem_of_getElem? (i := 0) rfl)) all0)
  have z_vb_417 : h0.size ≤ vb_417 := Nat.le_trans K0.1 p417_0
  have g_vb_417 : Z.heap.size ≤ vb_417 := Nat.le_trans O0.1 p417_0
  have ne_so_vb_417 : so ≠ vb_417 := Nat.ne_of_lt (Nat.lt_of_lt_of_le prem1.lt p417_0)
  have ne_ob_vb_417 : ob ≠ vb_417 := Nat.ne_of_lt (Nat.lt_of_lt_of_le prem5.lt p417_0)
  have ne_va_vb_417 : va ≠ vb_417 := Nat.ne_of_lt (Nat.lt_of_lt_of_le prem9.lt p417_0)
  refine Go.of (T' := T417) (f' := (mkF m 6 #[rv so, rv ob] [])) (fun _ k => XS.aloadN X0.here hx rfl (D d23_0) rfl rfl (XS.aloadN X0.here hx rfl (D d23_1) rfl rfl (XS.aconstNull X0.here hx rfl (D d23_2) (st417 _ k)))) ?_
  exact Go.retV X417 hx hlk hret (D d23_6) (by decide) (by decide) ⟨vb_417, kb_417, rfl, N417, K418, z_vb_417, p417_1, p417_2, p417_3⟩
theorem d22_0 : decode jdk_67_method_42_code 0 = .ok (.new 18, 3) := by decide +kernel
theorem d22_3 : decode jdk_67_method_42_code 3 = .ok (.dup, 1) := by decide +kernel
theorem d22_4 : decode jdk_67_method_42_code 4 = .ok (.aload_n 0, 1) := by decide +kernel
theorem d22_5 : decode jdk_67_method_42_code 5 = .ok (.invokespecial 137, 3) := by decide +kernel
theorem pd77 : parseMethodDescriptor "(Ljava/lang/StringBuilder;)V" = some ⟨[(.object "java/lang/StringBuilder")], none⟩ := by decide +kernel
theorem d22_8 : decode jdk_67_method_42_code 8 = .ok (.areturn, 1) := by decide +kernel
abbrev own_m78 : MethodName := (⟨"java/lang/StringBuilder", "toString", "()Ljava/lang/String;"⟩ : MethodName)
theorem ef_rm_tos_57 (m : MethodId) (ob : Addr) : entryFrame m #[(.ref ob)] 1 = mkF m 0 #[rv ob] [] := by first | (simp [entryFrame, mkF, argsToLocals, Value.category]; done) | rfl
theorem pn79 : plainFor (⟨"java/lang/StringBuilder", "toString", "()Ljava/lang/String;"⟩ : MethodName) = true := by first | exact plainFor_of_name (by first | (simp [plainName, overriddenIn]; done) | decide +kernel) | decide +kernel
set_option maxRecDepth 65536 in
set_option maxHeartbeats 40000000 in
theorem rm_tos_57 {l : Launch} {Z : State} {a0 : Array Value} {A : Nat → Addr} {KC : Nat → Cell} {IC : Nat → Int32} {VC : Nat → Value} (hw : ∀ d ∈ tables_1, d.before a0 Z = true) (G : own_Ctx Z A KC IC VC) (ob : Addr) (va : Addr) (kv : ClassId) (bs : List Int32) (h0 : Heap) (O0 : Ext Z.heap h0) (prem0 : bs.length = 57) (prem1 : Exa Z h0 ob "java/lang/StringBuilder") (prem2 : Fld Z h0 ob "java/lang/AbstractStringBuilder" "value" "[B" (.ref va)) (prem3 : Fld Z h0 ob "java/lang/AbstractStringBuilder" "coder" "B" (.int (0 : Int32))) (prem4 : Fld Z h0 ob "java/lang/AbstractStringBuilder" "count" "I" (.int (57 : Int32))) (prem5 : Arv Z h0 va kv .byte (70 : Int32) (bs.map Value.int) (.int (0 : Int32))) :
    Ok l Z own_m78 jdk_67_method_42_code 1 (some (.object "java/lang/String")) ({ frames := 5, cells := 2, slots := 61, locals := 79 } : Room) #[(.ref ob)] h0
      (fun v h L => ∃ so : Addr, ∃ vb : Addr, ∃ kb : ClassId, v = some (.ref so) ∧ (Fr Z.heap.size L) ∧ (Keep h0 h []) ∧ (h0.size ≤ so) ∧ (h0.size ≤ vb) ∧ (Exa Z h so "java/lang/String") ∧ (Fld Z h so "java/lang/String" "value" "[B" (.ref vb)) ∧ (Fld Z h so "java/lang/String" "coder" "B" (.int (0 : Int32))) ∧ (Arv Z h vb kb .byte (57 : Int32) (bs.map Value.int) (.int (0 : Int32)))) := by
  refine Ok.mk pn79 ?_
  intro p e s m below meth c T0 hx hby hml hown hnm hret hlk hZ e0 X0
  refine Go.cast (ef_rm_tos_57 m ob) ?_
  have D := @hb _ _ hby
  have N0 := Fr.nil Z.heap.size
  have K0 : Keep h0 h0 [] := Keep.refl _ _
  obtain ⟨T419, h419, b419, q419, X419, e419, E419, A419, D419, st419⟩ := newOb X0 hx hZ hown (own_w hw (i := 147) rfl) (own_w hw (i := 5) rfl) (own_w hw (i := 4) rfl) e0 (g := (mkF m 0 #[rv ob] [])) rfl (D d22_0) (by decide) (by decide)
  have O420 := Old0.ext O0 E419
  have K420 := Keep.ext K0 E419
  have g_b419 : Z.heap.size ≤ b419 := q419 ▸ O0.1
  have z_b419 : h0.size ≤ b419 := q419 ▸ K0.1
  have ne_ob_b419 : ob ≠ b419 := q419 ▸ Nat.ne_of_lt prem1.lt
  have ne_va_b419 : va ≠ b419 := q419 ▸ Nat.ne_of_lt prem5.lt
  have f421 : Fld Z h419 b419 "java/lang/String" "value" "[B" .null := D419 (Or.inr (own_w hw (i := 7) rfl)) (ty := (.array .byte)) (by decide)
  have f422 : Fld Z h419 b419 "java/lang/String" "coder" "B" (.int 0) := D419 (Or.inr (own_w hw (i := 8) rfl)) (ty := .byte) (by decide)
  have f424 : Exa Z h419 ob "java/lang/StringBuilder" := (Exa.ext E419 prem1)
  have f425 : Fld Z h419 ob "java/lang/AbstractStringBuilder" "value" "[B" (.ref va) := (Fld.ext E419 prem2)
  have f426 : Fld Z h419 ob "java/lang/AbstractStringBuilder" "coder" "B" (.int 0) := (Fld.ext E419 prem3)
  have f427 : Fld Z h419 ob "java/lang/AbstractStringBuilder" "count" "I" (.int 57) := (Fld.ext E419 prem4)
  have f428 : Arv Z h419 va kv .byte (70 : Int32) (bs.map Value.int) (.int 0) := (Arv.ext prem5 E419)
  obtain ⟨T423, v423, L423, X423, q423, st423⟩ := callNew X419 hx hZ (y := own_m75) rfl hown (own_w hw (i := 148) rfl) (own_w hw (i := 149) rfl) (own_w hw (i := 4) rfl) (own_w hw (i := 151) rfl) (by decide) (rm_si2_57 hw G b419 ob va kv bs h419 O420 (prem0) A419 f421 f422 g_b419 f424 f425 f426 f427 f428 (Ne.symm ne_ob_b419) (Ne.symm ne_va_b419)) e419 (W := 1) (by decide) (by decide) (by decide) (by decide) (g := (mkF m 5 #[rv ob] [(.ref ob), (.ref b419), (.ref b419)])) rfl (by rw [hml]; rfl) (a := b419) (argsL := [(.ref ob)]) (rest := [(.ref b419)]) (lenOf pd77 rfl) rfl rfl (Nat.le_of_eq rfl) (D d22_5)
  obtain ⟨vb_423, kb_423, rfl, N423q, K423q, p423_0, p423_1, p423_2, p423_3⟩ := q423
  have N423 := Fr.app N0 N423q
  have O429 := Old0.keep O420 K423q (allS g_b419 all0)
  have K429 := Keep.trans K420 K423q (allS (Or.inr z_b419) all0)
  have z_vb_423 : h0.size ≤ vb_423 := Nat.le_trans K420.1 p423_0
  have g_vb_423 : Z.heap.size ≤ vb_423 := Nat.le_trans O420.1 p423_0
  have ne_ob_vb_423 : ob ≠ vb_423 := Nat.ne_of_lt (Nat.lt_of_lt_of_le f424.lt p423_0)
  have ne_va_vb_423 : va ≠ vb_423 := Nat.ne_of_lt (Nat.lt_of_lt_of_le f428.lt p423_0)
  have ne_b419_vb_423 : b419 ≠ vb_423 := Nat.ne_of_lt (Nat.lt_of_lt_of_le A419.lt p423_0)
  have f430 : Exa Z T423.heap b419 "java/lang/String" := (Exa.keep A419 K423q)
  refine Go.of (T' := T423) (f' := (mkF m 8 #[rv ob] [(.ref b419)])) (fun _ k => st419 _ (XS.dup X419.here hx rfl (D d22_3) rfl rfl (XS.aloadN X419.here hx rfl (D d22_4) rfl rfl (st423 _ k)))) ?_
  exact Go.retA X423 hx hlk hret rfl rfl (D d22_8) (by decide) (by decide) ⟨b419, vb_423, kb_423, rfl, N423, K429, z_b419, z_vb_423, f430, p423_1, p423_2, p423_3⟩
theorem d0_0 : decode prog_10_method_5_code 0 = .ok (.new 54, 3) := by decide +kernel
theorem d0_3 : decode prog_10_method_5_code 3 = .ok (.dup, 1) := by decide +kernel
theorem d0_4 : decode prog_10_method_5_code 4 = .ok (.invokespecial 56, 3) := by decide +kernel
theorem pd80 : parseMethodDescriptor "()V" = some ⟨[], none⟩ := by decide +kernel
theorem d0_7 : decode prog_10_method_5_code 7 = .ok (.ldc 59, 2) := by decide +kernel
theorem d0_9 : decode prog_10_method_5_code 9 = .ok (.invokevirtual 61, 3) := by decide +kernel
theorem pd81 : parseMethodDescriptor "(Ljava/lang/String;)Ljava/lang/StringBuilder;" = some ⟨[(.object "java/lang/String")], some (.object "java/lang/StringBuilder")⟩ := by decide +kernel
theorem d0_12 : decode prog_10_method_5_code 12 = .ok (.aload_n 0, 1) := by decide +kernel
theorem d0_13 : decode prog_10_method_5_code 13 = .ok (.getfield 29, 3) := by decide +kernel
theorem d0_16 : decode prog_10_method_5_code 16 = .ok (.invokevirtual 61, 3) := by decide +kernel
theorem d0_19 : decode prog_10_method_5_code 19 = .ok (.ldc 65, 2) := by decide +kernel
theorem d0_21 : decode prog_10_method_5_code 21 = .ok (.invokevirtual 61, 3) := by decide +kernel
theorem d0_24 : decode prog_10_method_5_code 24 = .ok (.aload_n 0, 1) := by decide +kernel
theorem d0_25 : decode prog_10_method_5_code 25 = .ok (.getfield 33, 3) := by decide +kernel
theorem d0_28 : decode prog_10_method_5_code 28 = .ok (.invokevirtual 67, 3) := by decide +kernel
theorem pd82 : parseMethodDescriptor "(I)Ljava/lang/StringBuilder;" = some ⟨[.int], some (.object "java/lang/StringBuilder")⟩ := by decide +kernel
theorem d0_31 : decode prog_10_method_5_code 31 = .ok (.ldc 70, 2) := by decide +kernel
theorem d0_33 : decode prog_10_method_5_code 33 = .ok (.invokevirtual 61, 3) := by decide +kernel
theorem d0_36 : decode prog_10_method_5_code 36 = .ok (.aload_n 0, 1) := by decide +kernel
theorem d0_37 : decode prog_10_method_5_code 37 = .ok (.getfield 37, 3) := by decide +kernel
theorem d0_40 : decode prog_10_method_5_code 40 = .ok (.invokevirtual 67, 3) := by decide +kernel
theorem d0_43 : decode prog_10_method_5_code 43 = .ok (.ldc 72, 2) := by decide +kernel
theorem d0_45 : decode prog_10_method_5_code 45 = .ok (.invokevirtual 61, 3) := by decide +kernel
theorem d0_48 : decode prog_10_method_5_code 48 = .ok (.invokevirtual 74, 3) := by decide +kernel
theorem pd83 : parseMethodDescriptor "()Ljava/lang/String;" = some ⟨[], some (.object "java/lang/String")⟩ := by decide +kernel
theorem d0_51 : decode prog_10_method_5_code 51 = .ok (.areturn, 1) := by decide +kernel
abbrev own_m84 : MethodName := (⟨"com/example/patient_courier/patientcourier/NameRule", "requirement", "()Ljava/lang/String;"⟩ : MethodName)
theorem ef_rm_req_TOPIC (m : MethodId) {A : Nat → Addr}  : entryFrame m #[(.ref (A 0))] 1 = mkF m 0 #[rv (A 0)] [] := by first | (simp [entryFrame, mkF, argsToLocals, Value.category]; done) | rfl
theorem pn85 : plainFor (⟨"com/example/patient_courier/patientcourier/NameRule", "requirement", "()Ljava/lang/String;"⟩ : MethodName) = true := by first | exact plainFor_of_name (by first | (simp [plainName, overriddenIn]; done) | decide +kernel) | decide +kernel
set_option maxRecDepth 65536 in
set_option maxHeartbeats 40000000 in
theorem rm_req_TOPIC {l : Launch} {Z : State} {a0 : Array Value} {A : Nat → Addr} {KC : Nat → Cell} {IC : Nat → Int32} {VC : Nat → Value} (hw : ∀ d ∈ tables_1, d.before a0 Z = true) (G : own_Ctx Z A KC IC VC)   (h0 : Heap) (O0 : Ext Z.heap h0)  :
    OkS l Z own_EL own_m84 prog_10_method_5_code 1 (some (.object "java/lang/String")) ({ frames := 6, cells := 14, slots := 397, locals := 91 } : Room) #[(.ref (A 0))] h0
      (fun v h L => ∃ so : Addr, ∃ vb : Addr, ∃ kb : ClassId, v = some (.ref so) ∧ (Fr Z.heap.size L) ∧ (Keep h0 h []) ∧ (h0.size ≤ so) ∧ (Exa Z h so "java/lang/String") ∧ (Fld Z h so "java/lang/String" "value" "[B" (.ref vb)) ∧ (Fld Z h so "java/lang/String" "coder" "B" (.int (0 : Int32))) ∧ (Arv Z h vb kb .byte (57 : Int32) (([(65 : Int32), (32 : Int32), (116 : Int32), (111 : Int32), (112 : Int32), (105 : Int32), (99 : Int32), (32 : Int32), (110 : Int32), (97 : Int32), (109 : Int32), (101 : Int32), (32 : Int32), (105 : Int32), (115 : Int32), (32 : Int32), (51 : Int32), (32 : Int32), (116 : Int32), (111 : Int32), (32 : Int32), (53 : Int32), (48 : Int32), (32 : Int32), (65 : Int32), (83 : Int32), (67 : Int32), (73 : Int32), (73 : Int32), (32 : Int32), (108 : Int32), (101 : Int32), (116 : Int32), (116 : Int32), (101 : Int32), (114 : Int32), (115 : Int32), (44 : Int32), (32 : Int32), (100 : Int32), (105 : Int32), (103 : Int32), (105 : Int32), (116 : Int32), (115 : Int32), (32 : Int32), (111 : Int32), (114 : Int32), (32 : Int32), (104 : Int32), (121 : Int32), (112 : Int32), (104 : Int32), (101 : Int32), (110 : Int32), (115 : Int32), (46 : Int32)] : List Int32).map Value.int) (.int (0 : Int32)))) := by
  refine OkS.mk pn85 ?_
  intro p e s m below meth c T0 hx hby hml hown hnm hret hlk hZ e0 C0 hS X0
  have hk := Nat.zero_le h0.size
  have hEL := own_EW hw
  refine GoS.cast (ef_rm_req_TOPIC m ) ?_
  obtain ⟨-, -, F_s_TOPIC_kind, E_s_TOPIC_kind, F_s_TOPIC_kind_value, E_s_TOPIC_kind_value, F_s_TOPIC_kind_coder, F_s_TOPIC_minLength, F_s_TOPIC_maxLength, -, -, -, -, -, -, -, -, -, -, -, -, -, -, -, V_s_TOPIC_kind_value, -⟩ := id G
  have D := @hb _ _ hby
  have N0 := Fr.nil Z.heap.size
  have K0 : Keep h0 h0 [] := Keep.refl _ _
  obtain ⟨T431, h431, b431, q431, X431, e431, E431, A431, D431, st431⟩ := newOb X0 hx hZ hown (own_w hw (i := 16) rfl) (own_w hw (i := 17) rfl) (own_w hw (i := 18) rfl) e0 (g := (mkF m 0 #[rv (A 0)] [])) rfl (D d0_0) (by decide) (by decide)
  have O433 := Old0.ext O0 E431
  have K433 := Keep.ext K0 E431
  have C432 := CHr.trans C0 (CHr.ext E431 C0.1)
  have hk := Nat.le_trans hk E431.1
  have g_b431 : Z.heap.size ≤ b431 := q431 ▸ O0.1
  have z_b431 : h0.size ≤ b431 := q431 ▸ K0.1
  have f434 : Fld Z h431 b431 "java/lang/AbstractStringBuilder" "value" "[B" .null := D431 (Or.inl (own_w hw (i := 33) rfl)) (ty := (.array .byte)) (by decide)
  have f435 : Fld Z h431 b431 "java/lang/AbstractStringBuilder" "coder" "B" (.int 0) := D431 (Or.inl (own_w hw (i := 35) rfl)) (ty := .byte) (by decide)
  have f436 : Fld Z h431 b431 "java/lang/AbstractStringBuilder" "count" "I" (.int 0) := D431 (Or.inl (own_w hw (i := 61) rfl)) (ty := .int) (by decide)
  obtain ⟨T437, v437, L437, X437, q437, st437⟩ := callNew X431 hx hZ (y := own_m3) rfl hown (own_w hw (i := 19) rfl) (own_w hw (i := 20) rfl) (own_w hw (i := 18) rfl) (own_w hw (i := 21) rfl) (by decide) (rm_sbi hw G b431  h431 O433 A431 f434 f435 f436 g_b431) e431 (W := 1) (by decide) (by decide) (by decide) (by decide) (g := (mkF m 4 #[rv (A 0)] [(.ref b431), (.ref b431)])) rfl (by rw [hml]; rfl) (a := b431) (argsL := []) (rest := [(.ref b431)]) (lenOf pd80 rfl) rfl rfl (Nat.le_of_eq rfl) (D d0_4)
  obtain ⟨va_437, kv_437, rfl, N437q, K437q, p437_0, p437_1, p437_2, p437_3, p437_4⟩ := q437
  have N437 := Fr.app N0 N437q
  have O439 := Old0.keep O433 K437q (allS g_b431 all0)
  have K439 := Keep.trans K433 K437q (allS (Or.inr z_b431) all0)
  have C438 := CHr.trans C432 (CHr.keep K437q (sfS (Safe.exa hZ.alike A431 (by decide) (by decide)) sf0) C432.1)
  have hk := Nat.le_trans hk K437q.1
  have z_va_437 : h0.size ≤ va_437 := Nat.le_trans K433.1 p437_0
  have g_va_437 : Z.heap.size ≤ va_437 := Nat.le_trans O433.1 p437_0
  have ne_b431_va_437 : b431 ≠ va_437 := Nat.ne_of_lt (Nat.lt_of_lt_of_le A431.lt p437_0)
  refine GoS.of (T' := T437) (f' := (mkF m 7 #[rv (A 0)] [(.ref b431)])) (fun _ k => st431 _ (XS.dup X431.here hx rfl (D d0_3) rfl rfl (st437 _ k))) ?_
  have f441 : Exa Z T437.heap b431 "java/lang/StringBuilder" := (Exa.keep A431 K437q)
  have sf442 : Safe Z own_EL s.vm T437.heap va_437 := (Safe.keep K437q (sfS (Safe.exa hZ.alike A431 (by decide) (by decide)) sf0) C432.1 (Safe.new p437_0))
  have sp440_b431 : Safe Z own_EL s.vm T437.heap b431 := (Safe.exa hZ.alike f441 (by decide) (by decide))
  have sp440_va_437 : Safe Z own_EL s.vm T437.heap va_437 := sf442
  obtain ⟨c440, T440, h440, k1440, v440, kc440, X440, e440, E440, hS, hk440, hZ, hown, A440, Fc440, Fv440, V440, -, -, Cq440, -, sn440, st440⟩ := ldcCH X437 hx hZ hown (own_w hw (i := 36) rfl) (own_wS hw) rfl hS hk hEL (by decide) C438.1 (vs := [(.int 65), (.int 32)]) (z := (2 : Int32)) ⟨by decide +kernel, by decide +kernel⟩ (by decide) rfl (g := (mkF m 7 #[rv (A 0)] [(.ref b431)])) rfl (D d0_7) (n := 8) (by decide +kernel) (by decide) (by decide) (by decide)
  have O440 := Old0.ext O439 E440
  have K440 := Keep.ext K439 E440
  have C440 := CHr.trans C438 Cq440
  have hk := hk440
  have sf440_b431 : Safe Z own_EL T440.vm h440 b431 := CHr.safe Cq440 f441.lt sp440_b431
  have ne_b431_c440 : b431 ≠ c440 := (sn440 b431 sf440_b431).1
  have ne_b431_v440 : b431 ≠ v440 := (sn440 b431 sf440_b431).2
  have sf440_va_437 : Safe Z own_EL T440.vm h440 va_437 := CHr.safe Cq440 p437_4.lt sp440_va_437
  have ne_va_437_c440 : va_437 ≠ c440 := (sn440 va_437 sf440_va_437).1
  have ne_va_437_v440 : va_437 ≠ v440 := (sn440 va_437 sf440_va_437).2
  have f444 : Exa Z h440 b431 "java/lang/StringBuilder" := (Exa.ext E440 f441)
  have f445 : Fld Z h440 b431 "java/lang/AbstractStringBuilder" "value" "[B" (.ref va_437) := (Fld.ext E440 p437_1)
  have f446 : Fld Z h440 b431 "java/lang/AbstractStringBuilder" "coder" "B" (.int 0) := (Fld.ext E440 p437_2)
  have f447 : Fld Z h440 b431 "java/lang/AbstractStringBuilder" "count" "I" (.int 0) := (Fld.ext E440 p437_3)
  have f448 : Arv Z h440 va_437 kv_437 .byte (16 : Int32) (([] : List Int32).map Value.int) (.int 0) := (Arv.ext p437_4 E440)
  obtain ⟨T443, v443, L443, X443, q443, st443⟩ := callVi X440 hx hZ (y := own_m36) (z := own_m36) hown (own_w hw (i := 37) rfl) (own_w hw (i := 38) rfl) (notFace_of_selects (args := #[]) (mvT hZ (own_w hw (i := 40) rfl))) (own_w hw (i := 40) rfl) (own_w hw (i := 39) rfl) (own_w hw (i := 41) rfl) (own_w hw (i := 18) rfl) (by decide) (rm_sba_0_2_16 hw G b431 c440 v440 kc440 (([(65 : Int32), (32 : Int32)] : List Int32)) va_437 kv_437 (([] : List Int32)) h440 O440 (rfl) (rfl) f444 f445 f446 f447 A440 Fv440 Fc440 V440 f448 g_b431 g_va_437 ne_b431_va_437 (Ne.symm ne_b431_c440) (Ne.symm ne_b431_v440) (Ne.symm ne_va_437_c440) (Ne.symm ne_va_437_v440)) e440 (W := 0) (by decide) (by decide) (by decide) (by decide) f444 (g := (mkF m 9 #[rv (A 0)] [(.ref c440), (.ref b431)])) rfl (by rw [hml]; rfl) (argsL := [(.ref c440)]) (rest := []) (lenOf pd81 rfl) rfl rfl (Nat.le_of_eq rfl) (D d0_9)
  obtain ⟨rfl, N443q, K443q, p443_0, p443_1, p443_2, p443_3⟩ := q443
  have N443 := Fr.app N437 N443q
  have O450 := Old0.keep O440 K443q (allS g_b431 (allS g_va_437 all0))
  have K450 := Keep.trans K440 K443q (allS (Or.inr z_b431) (allS (Or.inr z_va_437) all0))
  have C449 := CHr.trans C440 (CHr.keep K443q (sfS (Safe.exa hZ.alike f444 (by decide) (by decide)) (sfS sf440_va_437 sf0)) C440.1)
  have hk := Nat.le_trans hk K443q.1
  have nm451 : Arv Z T443.heap va_437 kv_437 .byte (16 : Int32) (([(65 : Int32), (32 : Int32)] : List Int32).map Value.int) (.int 0) := p443_3
  obtain ⟨T452, X452, e452, st452⟩ := getF X443 hx hZ hown (host := "") (Or.inl (own_w hw (i := 87) rfl)) Via.refl rfl (Fld.ext O450 F_s_TOPIC_kind) (g := (mkF m 13 #[rv (A 0)] [(.ref (A 0)), (.ref b431)])) rfl rfl (D d0_13)
  have f454 : Exa Z T443.heap b431 "java/lang/StringBuilder" := (Exa.keep f444 K443q)
  obtain ⟨T453, v453, L453, X453, q453, st453⟩ := callVi X452 hx hZ (y := own_m36) (z := own_m36) hown (own_w hw (i := 37) rfl) (own_w hw (i := 38) rfl) (notFace_of_selects (args := #[]) (mvT hZ (own_w hw (i := 40) rfl))) (own_w hw (i := 40) rfl) (own_w hw (i := 39) rfl) (own_w hw (i := 41) rfl) (own_w hw (i := 18) rfl) (by decide) (rm_sba_2_5_16 hw G b431 ((A 1)) ((A 2)) ((KC 0).cls) (([(116 : Int32), (111 : Int32), (112 : Int32), (105 : Int32), (99 : Int32)] : List Int32)) va_437 kv_437 (([(65 : Int32), (32 : Int32)] : List Int32)) T443.heap O450 (rfl) (rfl) f454 p443_0 p443_1 p443_2 (Exa.ext O450 E_s_TOPIC_kind) (Fld.ext O450 F_s_TOPIC_kind_value) (Fld.ext O450 F_s_TOPIC_kind_coder) (Arv.ext V_s_TOPIC_kind_value O450) nm451 g_b431 g_va_437 ne_b431_va_437 (Nat.ne_of_lt (Nat.lt_of_lt_of_le (Exa.lt E_s_TOPIC_kind) g_b431)) (Nat.ne_of_lt (Nat.lt_of_lt_of_le (Exa.lt E_s_TOPIC_kind_value) g_b431)) (Nat.ne_of_lt (Nat.lt_of_lt_of_le (Exa.lt E_s_TOPIC_kind) g_va_437)) (Nat.ne_of_lt (Nat.lt_of_lt_of_le (Exa.lt E_s_TOPIC_kind_value) g_va_437))) e452 (W := 0) (by decide) (by decide) (by decide) (by decide) f454 (g := (mkF m 16 #[rv (A 0)] [(.ref (A 1)), (.ref b431)])) rfl (by rw [hml]; rfl) (argsL := [(.ref (A 1))]) (rest := []) (lenOf pd81 rfl) rfl rfl (Nat.le_of_eq rfl) (D d0_16)
  obtain ⟨rfl, N453q, K453q, p453_0, p453_1, p453_2, p453_3⟩ := q453
  have N453 := Fr.app N443 N453q
  have sf456 : Safe Z own_EL T440.vm T443.heap va_437 := (Safe.keep K443q (sfS (Safe.exa hZ.alike f444 (by decide) (by decide)) (sfS sf440_va_437 sf0)) C440.1 sf440_va_437)
  have O457 := Old0.keep O450 K453q (allS g_b431 (allS g_va_437 all0))
  have K457 := Keep.trans K450 K453q (allS (Or.inr z_b431) (allS (Or.inr z_va_437) all0))
  have C455 := CHr.trans C449 (CHr.keep K453q (sfS (Safe.exa hZ.alike f454 (by decide) (by decide)) (sfS sf456 sf0)) C449.1)
  have hk := Nat.le_trans hk K453q.1
  have nm458 : Arv Z T453.heap va_437 kv_437 .byte (16 : Int32) (([(65 : Int32), (32 : Int32), (116 : Int32), (111 : Int32), (112 : Int32), (105 : Int32), (99 : Int32)] : List Int32).map Value.int) (.int 0) := p453_3
  refine GoS.of (T' := T453) (f' := (mkF m 19 #[rv (A 0)] [(.ref b431)])) (fun _ k => st440 _ (st443 _ (XS.aloadN X443.here hx rfl (D d0_12) rfl rfl (st452 _ (st453 _ k))))) ?_
  have f460 : Exa Z T453.heap b431 "java/lang/StringBuilder" := (Exa.keep f454 K453q)
  have sf461 : Safe Z own_EL T440.vm T453.heap va_437 := (Safe.keep K453q (sfS (Safe.exa hZ.alike f454 (by decide) (by decide)) (sfS sf456 sf0)) C449.1 sf456)
  have sp459_b431 : Safe Z own_EL T440.vm T453.heap b431 := (Safe.exa hZ.alike f460 (by decide) (by decide))
  have sp459_va_437 : Safe Z own_EL T440.vm T453.heap va_437 := sf461
  obtain ⟨c459, T459, h459, k1459, v459, kc459, X459, e459, E459, hS, hk459, hZ, hown, A459, Fc459, Fv459, V459, -, -, Cq459, -, sn459, st459⟩ := ldcCH X453 hx hZ hown (own_w hw (i := 89) rfl) (own_wS hw) rfl hS hk hEL (by decide) C455.1 (vs := [(.int 32), (.int 110), (.int 97), (.int 109), (.int 101), (.int 32), (.int 105), (.int 115), (.int 32)]) (z := (9 : Int32)) ⟨by decide +kernel, by decide +kernel⟩ (by decide) rfl (g := (mkF m 19 #[rv (A 0)] [(.ref b431)])) rfl (D d0_19) (n := 36) (by decide +kernel) (by decide) (by decide) (by decide)
  have O459 := Old0.ext O457 E459
  have K459 := Keep.ext K457 E459
  have C459 := CHr.trans C455 Cq459
  have hk := hk459
  have sf459_b431 : Safe Z own_EL T459.vm h459 b431 := CHr.safe Cq459 f460.lt sp459_b431
  have ne_b431_c459 : b431 ≠ c459 := (sn459 b431 sf459_b431).1
  have ne_b431_v459 : b431 ≠ v459 := (sn459 b431 sf459_b431).2
  have sf459_va_437 : Safe Z own_EL T459.vm h459 va_437 := CHr.safe Cq459 nm458.lt sp459_va_437
  have ne_va_437_c459 : va_437 ≠ c459 := (sn459 va_437 sf459_va_437).1
  have ne_va_437_v459 : va_437 ≠ v459 := (sn459 va_437 sf459_va_437).2
  have f463 : Exa Z h459 b431 "java/lang/StringBuilder" := (Exa.ext E459 f460)
  have f464 : Fld Z h459 b431 "java/lang/AbstractStringBuilder" "value" "[B" (.ref va_437) := (Fld.ext E459 p453_0)
  have f465 : Fld Z h459 b431 "java/lang/AbstractStringBuilder" "coder" "B" (.int 0) := (Fld.ext E459 p453_1)
  have f466 : Fld Z h459 b431 "java/lang/AbstractStringBuilder" "count" "I" (.int 7) := (Fld.ext E459 p453_2)
  have f467 : Arv Z h459 va_437 kv_437 .byte (16 : Int32) (([(65 : Int32), (32 : Int32), (116 : Int32), (111 : Int32), (112 : Int32), (105 : Int32), (99 : Int32)] : List Int32).map Value.int) (.int 0) := (Arv.ext nm458 E459)
  obtain ⟨T462, v462, L462, X462, q462, st462⟩ := callVi X459 hx hZ (y := own_m36) (z := own_m36) hown (own_w hw (i := 37) rfl) (own_w hw (i := 38) rfl) (notFace_of_selects (args := #[]) (mvT hZ (own_w hw (i := 40) rfl))) (own_w hw (i := 40) rfl) (own_w hw (i := 39) rfl) (own_w hw (i := 41) rfl) (own_w hw (i := 18) rfl) (by decide) (rm_sba_7_9_16 hw G b431 c459 v459 kc459 (([(32 : Int32), (110 : Int32), (97 : Int32), (109 : Int32), (101 : Int32), (32 : Int32), (105 : Int32), (115 : Int32), (32 : Int32)] : List Int32)) va_437 kv_437 (([(65 : Int32), (32 : Int32), (116 : Int32), (111 : Int32), (112 : Int32), (105 : Int32), (99 : Int32)] : List Int32)) h459 O459 (rfl) (rfl) f463 f464 f465 f466 A459 Fv459 Fc459 V459 f467 g_b431 g_va_437 ne_b431_va_437 (Ne.symm ne_b431_c459) (Ne.symm ne_b431_v459) (Ne.symm ne_va_437_c459) (Ne.symm ne_va_437_v459)) e459 (W := 0) (by decide) (by decide) (by decide) (by decide) f463 (g := (mkF m 21 #[rv (A 0)] [(.ref c459), (.ref b431)])) rfl (by rw [hml]; rfl) (argsL := [(.ref c459)]) (rest := []) (lenOf pd81 rfl) rfl rfl (Nat.le_of_eq rfl) (D d0_21)
  obtain ⟨rfl, N462q, K462q, p462_0, p462_1, p462_2, p462_3⟩ := q462
  have N462 := Fr.app N453 N462q
  have O469 := Old0.keep O459 K462q (allS g_b431 (allS g_va_437 all0))
  have K469 := Keep.trans K459 K462q (allS (Or.inr z_b431) (allS (Or.inr z_va_437) all0))
  have C468 := CHr.trans C459 (CHr.keep K462q (sfS (Safe.exa hZ.alike f463 (by decide) (by decide)) (sfS sf459_va_437 sf0)) C459.1)
  have hk := Nat.le_trans hk K462q.1
  have nm470 : Arv Z T462.heap va_437 kv_437 .byte (16 : Int32) (([(65 : Int32), (32 : Int32), (116 : Int32), (111 : Int32), (112 : Int32), (105 : Int32), (99 : Int32), (32 : Int32), (110 : Int32), (97 : Int32), (109 : Int32), (101 : Int32), (32 : Int32), (105 : Int32), (115 : Int32), (32 : Int32)] : List Int32).map Value.int) (.int 0) := p462_3
  obtain ⟨T471, X471, e471, st471⟩ := getF X462 hx hZ hown (host := "") (Or.inl (own_w hw (i := 90) rfl)) Via.refl rfl (Fld.ext O469 F_s_TOPIC_minLength) (g := (mkF m 25 #[rv (A 0)] [(.ref (A 0)), (.ref b431)])) rfl rfl (D d0_25)
  have f473 : Exa Z T462.heap b431 "java/lang/StringBuilder" := (Exa.keep f463 K462q)
  have f474 : Exa Z T462.heap c440 "java/lang/String" := (Exa.keep (Exa.ext E459 (Exa.keep (Exa.keep A440 K443q) K453q)) K462q)
  have f475 : Arv Z T462.heap v440 kc440 .byte (2 : Int32) [(.int 65), (.int 32)] (.int 0) := (Arv.keep (Arv.ext (Arv.keep (Arv.keep V440 K443q (ninS (Ne.symm ne_b431_v440) (ninS (Ne.symm ne_va_437_v440) nin0))) K453q (ninS (Ne.symm ne_b431_v440) (ninS (Ne.symm ne_va_437_v440) nin0))) E459) K462q (ninS (Ne.symm ne_b431_v440) (ninS (Ne.symm ne_va_437_v440) nin0)))
  have f476 : Exa Z T462.heap c459 "java/lang/String" := (Exa.keep A459 K462q)
  have f477 : Arv Z T462.heap v459 kc459 .byte (9 : Int32) [(.int 32), (.int 110), (.int 97), (.int 109), (.int 101), (.int 32), (.int 105), (.int 115), (.int 32)] (.int 0) := (Arv.keep V459 K462q (ninS (Ne.symm ne_b431_v459) (ninS (Ne.symm ne_va_437_v459) nin0)))
  obtain ⟨T472, v472, L472, X472, q472, st472⟩ := callVi X471 hx hZ (y := own_m57) (z := own_m57) hown (own_w hw (i := 92) rfl) (own_w hw (i := 93) rfl) (notFace_of_selects (args := #[]) (mvT hZ (own_w hw (i := 95) rfl))) (own_w hw (i := 95) rfl) (own_w hw (i := 94) rfl) (own_w hw (i := 96) rfl) (own_w hw (i := 18) rfl) (by decide) (rm_sbi_3_16_16 hw G b431 va_437 kv_437 (([(65 : Int32), (32 : Int32), (116 : Int32), (111 : Int32), (112 : Int32), (105 : Int32), (99 : Int32), (32 : Int32), (110 : Int32), (97 : Int32), (109 : Int32), (101 : Int32), (32 : Int32), (105 : Int32), (115 : Int32), (32 : Int32)] : List Int32)) T462.heap O469 (rfl) f473 p462_0 p462_1 p462_2 nm470 g_b431 g_va_437 ne_b431_va_437) e471 (W := 0) (by decide) (by decide) (by decide) (by decide) f473 (g := (mkF m 28 #[rv (A 0)] [(.int 3), (.ref b431)])) rfl (by rw [hml]; rfl) (argsL := [(.int 3)]) (rest := []) (lenOf pd82 rfl) rfl rfl (Nat.le_of_eq rfl) (D d0_28)
  obtain ⟨vb_472, kb_472, rfl, N472q, K472q, p472_0, p472_1, p472_2, p472_3, p472_4⟩ := q472
  have N472 := Fr.app N462 N472q
  have O479 := Old0.keep O469 K472q (allS g_b431 all0)
  have K479 := Keep.trans K469 K472q (allS (Or.inr z_b431) all0)
  have C478 := CHr.trans C468 (CHr.keep K472q (sfS (Safe.exa hZ.alike f473 (by decide) (by decide)) sf0) C468.1)
  have hk := Nat.le_trans hk K472q.1
  have z_vb_472 : h0.size ≤ vb_472 := Nat.le_trans K469.1 p472_0
  have g_vb_472 : Z.heap.size ≤ vb_472 := Nat.le_trans O469.1 p472_0
  have ne_b431_vb_472 : b431 ≠ vb_472 := Nat.ne_of_lt (Nat.lt_of_lt_of_le f473.lt p472_0)
  have ne_c440_vb_472 : c440 ≠ vb_472 := Nat.ne_of_lt (Nat.lt_of_lt_of_le f474.lt p472_0)
  have ne_v440_vb_472 : v440 ≠ vb_472 := Nat.ne_of_lt (Nat.lt_of_lt_of_le f475.lt p472_0)
  have ne_c459_vb_472 : c459 ≠ vb_472 := Nat.ne_of_lt (Nat.lt_of_lt_of_le f476.lt p472_0)
  have ne_v459_vb_472 : v459 ≠ vb_472 := Nat.ne_of_lt (Nat.lt_of_lt_of_le f477.lt p472_0)
  have ne_va_437_vb_472 : va_437 ≠ vb_472 := Nat.ne_of_lt (Nat.lt_of_lt_of_le nm470.lt p472_0)
  have nm480 : Arv Z T472.heap vb_472 kb_472 .byte (34 : Int32) (([(65 : Int32), (32 : Int32), (116 : Int32), (111 : Int32), (112 : Int32), (105 : Int32), (99 : Int32), (32 : Int32), (110 : Int32), (97 : Int32), (109 : Int32), (101 : Int32), (32 : Int32), (105 : Int32), (115 : Int32), (32 : Int32), (51 : Int32)] : List Int32).map Value.int) (.int 0) := p472_4
  refine GoS.of (T' := T472) (f' := (mkF m 31 #[rv (A 0)] [(.ref b431)])) (fun _ k => st459 _ (st462 _ (XS.aloadN X462.here hx rfl (D d0_24) rfl rfl (st471 _ (st472 _ k))))) ?_
  have f482 : Exa Z T472.heap b431 "java/lang/StringBuilder" := (Exa.keep f473 K472q)
  have sf483 : Safe Z own_EL T459.vm T472.heap va_437 := (Safe.keep K472q (sfS (Safe.exa hZ.alike f473 (by decide) (by decide)) sf0) C468.1 (Safe.keep K462q (sfS (Safe.exa hZ.alike f463 (by decide) (by decide)) (sfS sf459_va_437 sf0)) C459.1 sf459_va_437))
  have f484 : Arv Z T472.heap va_437 kv_437 .byte (16 : Int32) (([(65 : Int32), (32 : Int32), (116 : Int32), (111 : Int32), (112 : Int32), (105 : Int32), (99 : Int32), (32 : Int32), (110 : Int32), (97 : Int32), (109 : Int32), (101 : Int32), (32 : Int32), (105 : Int32), (115 : Int32), (32 : Int32)] : List Int32).map Value.int) (.int 0) := (Arv.keep nm470 K472q (ninS (Ne.symm ne_b431_va_437) nin0))
  have sf485 : Safe Z own_EL T459.vm T472.heap vb_472 := (Safe.keep K472q (sfS (Safe.exa hZ.alike f473 (by decide) (by decide)) sf0) C468.1 (Safe.new p472_0))
  have sp481_b431 : Safe Z own_EL T459.vm T472.heap b431 := (Safe.exa hZ.alike f482 (by decide) (by decide))
  have sp481_va_437 : Safe Z own_EL T459.vm T472.heap va_437 := sf483
  have sp481_vb_472 : Safe Z own_EL T459.vm T472.heap vb_472 := sf485
  obtain ⟨c481, T481, h481, k1481, v481, kc481, X481, e481, E481, hS, hk481, hZ, hown, A481, Fc481, Fv481, V481, -, -, Cq481, -, sn481, st481⟩ := ldcCH X472 hx hZ hown (own_w hw (i := 137) rfl) (own_wS hw) rfl hS hk hEL (by decide) C478.1 (vs := [(.int 32), (.int 116), (.int 111), (.int 32)]) (z := (4 : Int32)) ⟨by decide +kernel, by decide +kernel⟩ (by decide) rfl (g := (mkF m 31 #[rv (A 0)] [(.ref b431)])) rfl (D d0_31) (n := 16) (by decide +kernel) (by decide) (by decide) (by decide)
  have O481 := Old0.ext O479 E481
  have K481 := Keep.ext K479 E481
  have C481 := CHr.trans C478 Cq481
  have hk := hk481
  have sf481_b431 : Safe Z own_EL T481.vm h481 b431 := CHr.safe Cq481 f482.lt sp481_b431
  have ne_b431_c481 : b431 ≠ c481 := (sn481 b431 sf481_b431).1
  have ne_b431_v481 : b431 ≠ v481 := (sn481 b431 sf481_b431).2
  have sf481_va_437 : Safe Z own_EL T481.vm h481 va_437 := CHr.safe Cq481 f484.lt sp481_va_437
  have ne_va_437_c481 : va_437 ≠ c481 := (sn481 va_437 sf481_va_437).1
  have ne_va_437_v481 : va_437 ≠ v481 := (sn481 va_437 sf481_va_437).2
  have sf481_vb_472 : Safe Z own_EL T481.vm h481 vb_472 := CHr.safe Cq481 nm480.lt sp481_vb_472
  have ne_vb_472_c481 : vb_472 ≠ c481 := (sn481 vb_472 sf481_vb_472).1
  have ne_vb_472_v481 : vb_472 ≠ v481 := (sn481 vb_472 sf481_vb_472).2
  have f487 : Exa Z h481 b431 "java/lang/StringBuilder" := (Exa.ext E481 f482)
  have f488 : Fld Z h481 b431 "java/lang/AbstractStringBuilder" "value" "[B" (.ref vb_472) := (Fld.ext E481 p472_1)
  have f489 : Fld Z h481 b431 "java/lang/AbstractStringBuilder" "coder" "B" (.int 0) := (Fld.ext E481 p472_2)
  have f490 : Fld Z h481 b431 "java/lang/AbstractStringBuilder" "count" "I" (.int 17) := (Fld.ext E481 p472_3)
  have f491 : Arv Z h481 vb_472 kb_472 .byte (34 : Int32) (([(65 : Int32), (32 : Int32), (116 : Int32), (111 : Int32), (112 : Int32), (105 : Int32), (99 : Int32), (32 : Int32), (110 : Int32), (97 : Int32), (109 : Int32), (101 : Int32), (32 : Int32), (105 : Int32), (115 : Int32), (32 : Int32), (51 : Int32)] : List Int32).map Value.int) (.int 0) := (Arv.ext nm480 E481)
  obtain ⟨T486, v486, L486, X486, q486, st486⟩ := callVi X481 hx hZ (y := own_m36) (z := own_m36) hown (own_w hw (i := 37) rfl) (own_w hw (i := 38) rfl) (notFace_of_selects (args := #[]) (mvT hZ (own_w hw (i := 40) rfl))) (own_w hw (i := 40) rfl) (own_w hw (i := 39) rfl) (own_w hw (i := 41) rfl) (own_w hw (i := 18) rfl) (by decide) (rm_sba_17_4_34 hw G b431 c481 v481 kc481 (([(32 : Int32), (116 : Int32), (111 : Int32), (32 : Int32)] : List Int32)) vb_472 kb_472 (([(65 : Int32), (32 : Int32), (116 : Int32), (111 : Int32), (112 : Int32), (105 : Int32), (99 : Int32), (32 : Int32), (110 : Int32), (97 : Int32), (109 : Int32), (101 : Int32), (32 : Int32), (105 : Int32), (115 : Int32), (32 : Int32), (51 : Int32)] : List Int32)) h481 O481 (rfl) (rfl) f487 f488 f489 f490 A481 Fv481 Fc481 V481 f491 g_b431 g_vb_472 ne_b431_vb_472 (Ne.symm ne_b431_c481) (Ne.symm ne_b431_v481) (Ne.symm ne_vb_472_c481) (Ne.symm ne_vb_472_v481)) e481 (W := 0) (by decide) (by decide) (by decide) (by decide) f487 (g := (mkF m 33 #[rv (A 0)] [(.ref c481), (.ref b431)])) rfl (by rw [hml]; rfl) (argsL := [(.ref c481)]) (rest := []) (lenOf pd81 rfl) rfl rfl (Nat.le_of_eq rfl) (D d0_33)
  obtain ⟨rfl, N486q, K486q, p486_0, p486_1, p486_2, p486_3⟩ := q486
  have N486 := Fr.app N472 N486q
  have O493 := Old0.keep O481 K486q (allS g_b431 (allS g_vb_472 all0))
  have K493 := Keep.trans K481 K486q (allS (Or.inr z_b431) (allS (Or.inr z_vb_472) all0))
  have C492 := CHr.trans C481 (CHr.keep K486q (sfS (Safe.exa hZ.alike f487 (by decide) (by decide)) (sfS sf481_vb_472 sf0)) C481.1)
  have hk := Nat.le_trans hk K486q.1
  have nm494 : Arv Z T486.heap vb_472 kb_472 .byte (34 : Int32) (([(65 : Int32), (32 : Int32), (116 : Int32), (111 : Int32), (112 : Int32), (105 : Int32), (99 : Int32), (32 : Int32), (110 : Int32), (97 : Int32), (109 : Int32), (101 : Int32), (32 : Int32), (105 : Int32), (115 : Int32), (32 : Int32), (51 : Int32), (32 : Int32), (116 : Int32), (111 : Int32), (32 : Int32)] : List Int32).map Value.int) (.int 0) := p486_3
  obtain ⟨T495, X495, e495, st495⟩ := getF X486 hx hZ hown (host := "") (Or.inl (own_w hw (i := 138) rfl)) Via.refl rfl (Fld.ext O493 F_s_TOPIC_maxLength) (g := (mkF m 37 #[rv (A 0)] [(.ref (A 0)), (.ref b431)])) rfl rfl (D d0_37)
  have f497 : Exa Z T486.heap b431 "java/lang/StringBuilder" := (Exa.keep f487 K486q)
  obtain ⟨T496, v496, L496, X496, q496, st496⟩ := callVi X495 hx hZ (y := own_m57) (z := own_m57) hown (own_w hw (i := 92) rfl) (own_w hw (i := 93) rfl) (notFace_of_selects (args := #[]) (mvT hZ (own_w hw (i := 95) rfl))) (own_w hw (i := 95) rfl) (own_w hw (i := 94) rfl) (own_w hw (i := 96) rfl) (own_w hw (i := 18) rfl) (by decide) (rm_sbi_50_21_34 hw G b431 vb_472 kb_472 (([(65 : Int32), (32 : Int32), (116 : Int32), (111 : Int32), (112 : Int32), (105 : Int32), (99 : Int32), (32 : Int32), (110 : Int32), (97 : Int32), (109 : Int32), (101 : Int32), (32 : Int32), (105 : Int32), (115 : Int32), (32 : Int32), (51 : Int32), (32 : Int32), (116 : Int32), (111 : Int32), (32 : Int32)] : List Int32)) T486.heap O493 (rfl) f497 p486_0 p486_1 p486_2 nm494 g_b431 g_vb_472 ne_b431_vb_472) e495 (W := 0) (by decide) (by decide) (by decide) (by decide) f497 (g := (mkF m 40 #[rv (A 0)] [(.int 50), (.ref b431)])) rfl (by rw [hml]; rfl) (argsL := [(.int 50)]) (rest := []) (lenOf pd82 rfl) rfl rfl (Nat.le_of_eq rfl) (D d0_40)
  obtain ⟨rfl, N496q, K496q, p496_0, p496_1, p496_2, p496_3⟩ := q496
  have N496 := Fr.app N486 N496q
  have sf499 : Safe Z own_EL T481.vm T486.heap vb_472 := (Safe.keep K486q (sfS (Safe.exa hZ.alike f487 (by decide) (by decide)) (sfS sf481_vb_472 sf0)) C481.1 sf481_vb_472)
  have O500 := Old0.keep O493 K496q (allS g_b431 (allS g_vb_472 all0))
  have K500 := Keep.trans K493 K496q (allS (Or.inr z_b431) (allS (Or.inr z_vb_472) all0))
  have C498 := CHr.trans C492 (CHr.keep K496q (sfS (Safe.exa hZ.alike f497 (by decide) (by decide)) (sfS sf499 sf0)) C492.1)
  have hk := Nat.le_trans hk K496q.1
  have nm501 : Arv Z T496.heap vb_472 kb_472 .byte (34 : Int32) (([(65 : Int32), (32 : Int32), (116 : Int32), (111 : Int32), (112 : Int32), (105 : Int32), (99 : Int32), (32 : Int32), (110 : Int32), (97 : Int32), (109 : Int32), (101 : Int32), (32 : Int32), (105 : Int32), (115 : Int32), (32 : Int32), (51 : Int32), (32 : Int32), (116 : Int32), (111 : Int32), (32 : Int32), (53 : Int32), (48 : Int32)] : List Int32).map Value.int) (.int 0) := p496_3
  refine GoS.of (T' := T496) (f' := (mkF m 43 #[rv (A 0)] [(.ref b431)])) (fun _ k => st481 _ (st486 _ (XS.aloadN X486.here hx rfl (D d0_36) rfl rfl (st495 _ (st496 _ k))))) ?_
  have f503 : Exa Z T496.heap b431 "java/lang/StringBuilder" := (Exa.keep f497 K496q)
  have sf504 : Safe Z own_EL T481.vm T496.heap va_437 := (Safe.keep K496q (sfS (Safe.exa hZ.alike f497 (by decide) (by decide)) (sfS sf499 sf0)) C492.1 (Safe.keep K486q (sfS (Safe.exa hZ.alike f487 (by decide) (by decide)) (sfS sf481_vb_472 sf0)) C481.1 sf481_va_437))
  have f505 : Arv Z T496.heap va_437 kv_437 .byte (16 : Int32) (([(65 : Int32), (32 : Int32), (116 : Int32), (111 : Int32), (112 : Int32), (105 : Int32), (99 : Int32), (32 : Int32), (110 : Int32), (97 : Int32), (109 : Int32), (101 : Int32), (32 : Int32), (105 : Int32), (115 : Int32), (32 : Int32)] : List Int32).map Value.int) (.int 0) := (Arv.keep (Arv.keep (Arv.ext f484 E481) K486q (ninS (Ne.symm ne_b431_va_437) (ninS ne_va_437_vb_472 nin0))) K496q (ninS (Ne.symm ne_b431_va_437) (ninS ne_va_437_vb_472 nin0)))
  have sf506 : Safe Z own_EL T481.vm T496.heap vb_472 := (Safe.keep K496q (sfS (Safe.exa hZ.alike f497 (by decide) (by decide)) (sfS sf499 sf0)) C492.1 sf499)
  have sp502_b431 : Safe Z own_EL T481.vm T496.heap b431 := (Safe.exa hZ.alike f503 (by decide) (by decide))
  have sp502_va_437 : Safe Z own_EL T481.vm T496.heap va_437 := sf504
  have sp502_vb_472 : Safe Z own_EL T481.vm T496.heap vb_472 := sf506
  obtain ⟨c502, T502, h502, k1502, v502, kc502, X502, e502, E502, hS, hk502, hZ, hown, A502, Fc502, Fv502, V502, -, -, Cq502, -, sn502, st502⟩ := ldcCH X496 hx hZ hown (own_w hw (i := 141) rfl) (own_wS hw) rfl hS hk hEL (by decide) C498.1 (vs := [(.int 32), (.int 65), (.int 83), (.int 67), (.int 73), (.int 73), (.int 32), (.int 108), (.int 101), (.int 116), (.int 116), (.int 101), (.int 114), (.int 115), (.int 44), (.int 32), (.int 100), (.int 105), (.int 103), (.int 105), (.int 116), (.int 115), (.int 32), (.int 111), (.int 114), (.int 32), (.int 104), (.int 121), (.int 112), (.int 104), (.int 101), (.int 110), (.int 115), (.int 46)]) (z := (34 : Int32)) ⟨by decide +kernel, by decide +kernel⟩ (by decide) rfl (g := (mkF m 43 #[rv (A 0)] [(.ref b431)])) rfl (D d0_43) (n := 136) (by decide +kernel) (by decide) (by decide) (by decide)
  have O502 := Old0.ext O500 E502
  have K502 := Keep.ext K500 E502
  have C502 := CHr.trans C498 Cq502
  have hk := hk502
  have sf502_b431 : Safe Z own_EL T502.vm h502 b431 := CHr.safe Cq502 f503.lt sp502_b431
  have ne_b431_c502 : b431 ≠ c502 := (sn502 b431 sf502_b431).1
  have ne_b431_v502 : b431 ≠ v502 := (sn502 b431 sf502_b431).2
  have sf502_va_437 : Safe Z own_EL T502.vm h502 va_437 := CHr.safe Cq502 f505.lt sp502_va_437
  have ne_va_437_c502 : va_437 ≠ c502 := (sn502 va_437 sf502_va_437).1
  have ne_va_437_v502 : va_437 ≠ v502 := (sn502 va_437 sf502_va_437).2
  have sf502_vb_472 : Safe Z own_EL T502.vm h502 vb_472 := CHr.safe Cq502 nm501.lt sp502_vb_472
  have ne_vb_472_c502 : vb_472 ≠ c502 := (sn502 vb_472 sf502_vb_472).1
  have ne_vb_472_v502 : vb_472 ≠ v502 := (sn502 vb_472 sf502_vb_472).2
  have f508 : Exa Z h502 b431 "java/lang/StringBuilder" := (Exa.ext E502 f503)
  have f509 : Fld Z h502 b431 "java/lang/AbstractStringBuilder" "value" "[B" (.ref vb_472) := (Fld.ext E502 p496_0)
  have f510 : Fld Z h502 b431 "java/lang/AbstractStringBuilder" "coder" "B" (.int 0) := (Fld.ext E502 p496_1)
  have f511 : Fld Z h502 b431 "java/lang/AbstractStringBuilder" "count" "I" (.int 23) := (Fld.ext E502 p496_2)
  have f512 : Arv Z h502 vb_472 kb_472 .byte (34 : Int32) (([(65 : Int32), (32 : Int32), (116 : Int32), (111 : Int32), (112 : Int32), (105 : Int32), (99 : Int32), (32 : Int32), (110 : Int32), (97 : Int32), (109 : Int32), (101 : Int32), (32 : Int32), (105 : Int32), (115 : Int32), (32 : Int32), (51 : Int32), (32 : Int32), (116 : Int32), (111 : Int32), (32 : Int32), (53 : Int32), (48 : Int32)] : List Int32).map Value.int) (.int 0) := (Arv.ext nm501 E502)
  have f513 : Exa Z h502 c440 "java/lang/String" := (Exa.ext E502 (Exa.keep (Exa.keep (Exa.ext E481 (Exa.keep f474 K472q)) K486q) K496q))
  have f514 : Arv Z h502 v440 kc440 .byte (2 : Int32) [(.int 65), (.int 32)] (.int 0) := (Arv.ext (Arv.keep (Arv.keep (Arv.ext (Arv.keep f475 K472q (ninS (Ne.symm ne_b431_v440) nin0)) E481) K486q (ninS (Ne.symm ne_b431_v440) (ninS ne_v440_vb_472 nin0))) K496q (ninS (Ne.symm ne_b431_v440) (ninS ne_v440_vb_472 nin0))) E502)
  have f515 : Exa Z h502 c459 "java/lang/String" := (Exa.ext E502 (Exa.keep (Exa.keep (Exa.ext E481 (Exa.keep f476 K472q)) K486q) K496q))
  have f516 : Arv Z h502 v459 kc459 .byte (9 : Int32) [(.int 32), (.int 110), (.int 97), (.int 109), (.int 101), (.int 32), (.int 105), (.int 115), (.int 32)] (.int 0) := (Arv.ext (Arv.keep (Arv.keep (Arv.ext (Arv.keep f477 K472q (ninS (Ne.symm ne_b431_v459) nin0)) E481) K486q (ninS (Ne.symm ne_b431_v459) (ninS ne_v459_vb_472 nin0))) K496q (ninS (Ne.symm ne_b431_v459) (ninS ne_v459_vb_472 nin0))) E502)
  have f517 : Arv Z h502 va_437 kv_437 .byte (16 : Int32) (([(65 : Int32), (32 : Int32), (116 : Int32), (111 : Int32), (112 : Int32), (105 : Int32), (99 : Int32), (32 : Int32), (110 : Int32), (97 : Int32), (109 : Int32), (101 : Int32), (32 : Int32), (105 : Int32), (115 : Int32), (32 : Int32)] : List Int32).map Value.int) (.int 0) := (Arv.ext f505 E502)
  have f518 : Exa Z h502 c481 "java/lang/String" := (Exa.ext E502 (Exa.keep (Exa.keep A481 K486q) K496q))
  have f519 : Arv Z h502 v481 kc481 .byte (4 : Int32) [(.int 32), (.int 116), (.int 111), (.int 32)] (.int 0) := (Arv.ext (Arv.keep (Arv.keep V481 K486q (ninS (Ne.symm ne_b431_v481) (ninS (Ne.symm ne_vb_472_v481) nin0))) K496q (ninS (Ne.symm ne_b431_v481) (ninS (Ne.symm ne_vb_472_v481) nin0))) E502)
  obtain ⟨T507, v507, L507, X507, q507, st507⟩ := callVi X502 hx hZ (y := own_m36) (z := own_m36) hown (own_w hw (i := 37) rfl) (own_w hw (i := 38) rfl) (notFace_of_selects (args := #[]) (mvT hZ (own_w hw (i := 40) rfl))) (own_w hw (i := 40) rfl) (own_w hw (i := 39) rfl) (own_w hw (i := 41) rfl) (own_w hw (i := 18) rfl) (by decide) (rm_sba_23_34_34 hw G b431 c502 v502 kc502 (([(32 : Int32), (65 : Int32), (83 : Int32), (67 : Int32), (73 : Int32), (73 : Int32), (32 : Int32), (108 : Int32), (101 : Int32), (116 : Int32), (116 : Int32), (101 : Int32), (114 : Int32), (115 : Int32), (44 : Int32), (32 : Int32), (100 : Int32), (105 : Int32), (103 : Int32), (105 : Int32), (116 : Int32), (115 : Int32), (32 : Int32), (111 : Int32), (114 : Int32), (32 : Int32), (104 : Int32), (121 : Int32), (112 : Int32), (104 : Int32), (101 : Int32), (110 : Int32), (115 : Int32), (46 : Int32)] : List Int32)) vb_472 kb_472 (([(65 : Int32), (32 : Int32), (116 : Int32), (111 : Int32), (112 : Int32), (105 : Int32), (99 : Int32), (32 : Int32), (110 : Int32), (97 : Int32), (109 : Int32), (101 : Int32), (32 : Int32), (105 : Int32), (115 : Int32), (32 : Int32), (51 : Int32), (32 : Int32), (116 : Int32), (111 : Int32), (32 : Int32), (53 : Int32), (48 : Int32)] : List Int32)) h502 O502 (rfl) (rfl) f508 f509 f510 f511 A502 Fv502 Fc502 V502 f512 g_b431 g_vb_472 ne_b431_vb_472 (Ne.symm ne_b431_c502) (Ne.symm ne_b431_v502) (Ne.symm ne_vb_472_c502) (Ne.symm ne_vb_472_v502)) e502 (W := 0) (by decide) (by decide) (by decide) (by decide) f508 (g := (mkF m 45 #[rv (A 0)] [(.ref c502), (.ref b431)])) rfl (by rw [hml]; rfl) (argsL := [(.ref c502)]) (rest := []) (lenOf pd81 rfl) rfl rfl (Nat.le_of_eq rfl) (D d0_45)
  obtain ⟨vb_507, kb_507, rfl, N507q, K507q, p507_0, p507_1, p507_2, p507_3, p507_4⟩ := q507
  have N507 := Fr.app N496 N507q
  have O521 := Old0.keep O502 K507q (allS g_b431 all0)
  have K521 := Keep.trans K502 K507q (allS (Or.inr z_b431) all0)
  have C520 := CHr.trans C502 (CHr.keep K507q (sfS (Safe.exa hZ.alike f508 (by decide) (by decide)) sf0) C502.1)
  have hk := Nat.le_trans hk K507q.1
  have z_vb_507 : h0.size ≤ vb_507 := Nat.le_trans K502.1 p507_0
  have g_vb_507 : Z.heap.size ≤ vb_507 := Nat.le_trans O502.1 p507_0
  have ne_b431_vb_507 : b431 ≠ vb_507 := Nat.ne_of_lt (Nat.lt_of_lt_of_le f508.lt p507_0)
  have ne_c440_vb_507 : c440 ≠ vb_507 := Nat.ne_of_lt (Nat.lt_of_lt_of_le f513.lt p507_0)
  have ne_v440_vb_507 : v440 ≠ vb_507 := Nat.ne_of_lt (Nat.lt_of_lt_of_le f514.lt p507_0)
  have ne_c459_vb_507 : c459 ≠ vb_507 := Nat.ne_of_lt (Nat.lt_of_lt_of_le f515.lt p507_0)
  have ne_v459_vb_507 : v459 ≠ vb_507 := Nat.ne_of_lt (Nat.lt_of_lt_of_le f516.lt p507_0)
  have ne_va_437_vb_507 : va_437 ≠ vb_507 := Nat.ne_of_lt (Nat.lt_of_lt_of_le f517.lt p507_0)
  have ne_c481_vb_507 : c481 ≠ vb_507 := Nat.ne_of_lt (Nat.lt_of_lt_of_le f518.lt p507_0)
  have ne_v481_vb_507 : v481 ≠ vb_507 := Nat.ne_of_lt (Nat.lt_of_lt_of_le f519.lt p507_0)
  have ne_vb_472_vb_507 : vb_472 ≠ vb_507 := Nat.ne_of_lt (Nat.lt_of_lt_of_le f512.lt p507_0)
  have ne_c502_vb_507 : c502 ≠ vb_507 := Nat.ne_of_lt (Nat.lt_of_lt_of_le A502.lt p507_0)
  have ne_v502_vb_507 : v502 ≠ vb_507 := Nat.ne_of_lt (Nat.lt_of_lt_of_le V502.lt p507_0)
  have nm522 : Arv Z T507.heap vb_507 kb_507 .byte (70 : Int32) (([(65 : Int32), (32 : Int32), (116 : Int32), (111 : Int32), (112 : Int32), (105 : Int32), (99 : Int32), (32 : Int32), (110 : Int32), (97 : Int32), (109 : Int32), (101 : Int32), (32 : Int32), (105 : Int32), (115 : Int32), (32 : Int32), (51 : Int32), (32 : Int32), (116 : Int32), (111 : Int32), (32 : Int32), (53 : Int32), (48 : Int32), (32 : Int32), (65 : Int32), (83 : Int32), (67 : Int32), (73 : Int32), (73 : Int32), (32 : Int32), (108 : Int32), (101 : Int32), (116 : Int32), (116 : Int32), (101 : Int32), (114 : Int32), (115 : Int32), (44 : Int32), (32 : Int32), (100 : Int32), (105 : Int32), (103 : Int32), (105 : Int32), (116 : Int32), (115 : Int32), (32 : Int32), (111 : Int32), (114 : Int32), (32 : Int32), (104 : Int32), (121 : Int32), (112 : Int32), (104 : Int32), (101 : Int32), (110 : Int32), (115 : Int32), (46 : Int32)] : List Int32).map Value.int) (.int 0) := p507_4
  have f524 : Exa Z T507.heap b431 "java/lang/StringBuilder" := (Exa.keep f508 K507q)
  have f525 : Exa Z T507.heap c440 "java/lang/String" := (Exa.keep f513 K507q)
  have f526 : Arv Z T507.heap v440 kc440 .byte (2 : Int32) [(.int 65), (.int 32)] (.int 0) := (Arv.keep f514 K507q (ninS (Ne.symm ne_b431_v440) nin0))
  have f527 : Exa Z T507.heap c459 "java/lang/String" := (Exa.keep f515 K507q)
  have f528 : Arv Z T507.heap v459 kc459 .byte (9 : Int32) [(.int 32), (.int 110), (.int 97), (.int 109), (.int 101), (.int 32), (.int 105), (.int 115), (.int 32)] (.int 0) := (Arv.keep f516 K507q (ninS (Ne.symm ne_b431_v459) nin0))
  have f529 : Arv Z T507.heap va_437 kv_437 .byte (16 : Int32) (([(65 : Int32), (32 : Int32), (116 : Int32), (111 : Int32), (112 : Int32), (105 : Int32), (99 : Int32), (32 : Int32), (110 : Int32), (97 : Int32), (109 : Int32), (101 : Int32), (32 : Int32), (105 : Int32), (115 : Int32), (32 : Int32)] : List Int32).map Value.int) (.int 0) := (Arv.keep f517 K507q (ninS (Ne.symm ne_b431_va_437) nin0))
  have f530 : Exa Z T507.heap c481 "java/lang/String" := (Exa.keep f518 K507q)
  have f531 : Arv Z T507.heap v481 kc481 .byte (4 : Int32) [(.int 32), (.int 116), (.int 111), (.int 32)] (.int 0) := (Arv.keep f519 K507q (ninS (Ne.symm ne_b431_v481) nin0))
  have f532 : Arv Z T507.heap vb_472 kb_472 .byte (34 : Int32) (([(65 : Int32), (32 : Int32), (116 : Int32), (111 : Int32), (112 : Int32), (105 : Int32), (99 : Int32), (32 : Int32), (110 : Int32), (97 : Int32), (109 : Int32), (101 : Int32), (32 : Int32), (105 : Int32), (115 : Int32), (32 : Int32), (51 : Int32), (32 : Int32), (116 : Int32), (111 : Int32), (32 : Int32), (53 : Int32), (48 : Int32)] : List Int32).map Value.int) (.int 0) := (Arv.keep f512 K507q (ninS (Ne.symm ne_b431_vb_472) nin0))
  have f533 : Exa Z T507.heap c502 "java/lang/String" := (Exa.keep A502 K507q)
  have f534 : Arv Z T507.heap v502 kc502 .byte (34 : Int32) [(.int 32), (.int 65), (.int 83), (.int 67), (.int 73), (.int 73), (.int 32), (.int 108), (.int 101), (.int 116), (.int 116), (.int 101), (.int 114), (.int 115), (.int 44), (.int 32), (.int 100), (.int 105), (.int 103), (.int 105), (.int 116), (.int 115), (.int 32), (.int 111), (.int 114), (.int 32), (.int 104), (.int 121), (.int 112), (.int 104), (.int 101), (.int 110), (.int 115), (.int 46)] (.int 0) := (Arv.keep V502 K507q (ninS (Ne.symm ne_b431_v502) nin0))
  obtain ⟨T523, v523, L523, X523, q523, st523⟩ := callVi X507 hx hZ (y := own_m78) (z := own_m78) hown (own_w hw (i := 142) rfl) (own_w hw (i := 143) rfl) (notFace_of_selects (args := #[]) (mvT hZ (own_w hw (i := 145) rfl))) (own_w hw (i := 145) rfl) (own_w hw (i := 144) rfl) (own_w hw (i := 146) rfl) (own_w hw (i := 18) rfl) (by decide) (rm_tos_57 hw G b431 vb_507 kb_507 (([(65 : Int32), (32 : Int32), (116 : Int32), (111 : Int32), (112 : Int32), (105 : Int32), (99 : Int32), (32 : Int32), (110 : Int32), (97 : Int32), (109 : Int32), (101 : Int32), (32 : Int32), (105 : Int32), (115 : Int32), (32 : Int32), (51 : Int32), (32 : Int32), (116 : Int32), (111 : Int32), (32 : Int32), (53 : Int32), (48 : Int32), (32 : Int32), (65 : Int32), (83 : Int32), (67 : Int32), (73 : Int32), (73 : Int32), (32 : Int32), (108 : Int32), (101 : Int32), (116 : Int32), (116 : Int32), (101 : Int32), (114 : Int32), (115 : Int32), (44 : Int32), (32 : Int32), (100 : Int32), (105 : Int32), (103 : Int32), (105 : Int32), (116 : Int32), (115 : Int32), (32 : Int32), (111 : Int32), (114 : Int32), (32 : Int32), (104 : Int32), (121 : Int32), (112 : Int32), (104 : Int32), (101 : Int32), (110 : Int32), (115 : Int32), (46 : Int32)] : List Int32)) T507.heap O521 (rfl) f524 p507_1 p507_2 p507_3 nm522) rfl (W := 0) (by decide) (by decide) (by decide) (by decide) f524 (g := (mkF m 48 #[rv (A 0)] [(.ref b431)])) rfl (by rw [hml]; rfl) (argsL := []) (rest := []) (lenOf pd83 rfl) rfl rfl (Nat.le_of_eq rfl) (D d0_48)
  obtain ⟨so_523, vb_523, kb_523, rfl, N523q, K523q, p523_0, p523_1, p523_2, p523_3, p523_4, p523_5⟩ := q523
  have N523 := Fr.app N507 N523q
  have O536 := Old0.keep O521 K523q all0
  have K536 := Keep.trans K521 K523q all0
  have C535 := CHr.trans C520 (CHr.keep K523q sf0 C520.1)
  have hk := Nat.le_trans hk K523q.1
  have z_so_523 : h0.size ≤ so_523 := Nat.le_trans K521.1 p523_0
  have g_so_523 : Z.heap.size ≤ so_523 := Nat.le_trans O521.1 p523_0
  have ne_b431_so_523 : b431 ≠ so_523 := Nat.ne_of_lt (Nat.lt_of_lt_of_le f524.lt p523_0)
  have ne_c440_so_523 : c440 ≠ so_523 := Nat.ne_of_lt (Nat.lt_of_lt_of_le f525.lt p523_0)
  have ne_v440_so_523 : v440 ≠ so_523 := Nat.ne_of_lt (Nat.lt_of_lt_of_le f526.lt p523_0)
  have ne_c459_so_523 : c459 ≠ so_523 := Nat.ne_of_lt (Nat.lt_of_lt_of_le f527.lt p523_0)
  have ne_v459_so_523 : v459 ≠ so_523 := Nat.ne_of_lt (Nat.lt_of_lt_of_le f528.lt p523_0)
  have ne_va_437_so_523 : va_437 ≠ so_523 := Nat.ne_of_lt (Nat.lt_of_lt_of_le f529.lt p523_0)
  have ne_c481_so_523 : c481 ≠ so_523 := Nat.ne_of_lt (Nat.lt_of_lt_of_le f530.lt p523_0)
  have ne_v481_so_523 : v481 ≠ so_523 := Nat.ne_of_lt (Nat.lt_of_lt_of_le f531.lt p523_0)
  have ne_vb_472_so_523 : vb_472 ≠ so_523 := Nat.ne_of_lt (Nat.lt_of_lt_of_le f532.lt p523_0)
  have ne_c502_so_523 : c502 ≠ so_523 := Nat.ne_of_lt (Nat.lt_of_lt_of_le f533.lt p523_0)
  have ne_v502_so_523 : v502 ≠ so_523 := Nat.ne_of_lt (Nat.lt_of_lt_of_le f534.lt p523_0)
  have ne_vb_507_so_523 : vb_507 ≠ so_523 := Nat.ne_of_lt (Nat.lt_of_lt_of_le nm522.lt p523_0)
  have z_vb_523 : h0.size ≤ vb_523 := Nat.le_trans K521.1 p523_1
  have g_vb_523 : Z.heap.size ≤ vb_523 := Nat.le_trans O521.1 p523_1
  have ne_b431_vb_523 : b431 ≠ vb_523 := Nat.ne_of_lt (Nat.lt_of_lt_of_le f524.lt p523_1)
  have ne_c440_vb_523 : c440 ≠ vb_523 := Nat.ne_of_lt (Nat.lt_of_lt_of_le f525.lt p523_1)
  have ne_v440_vb_523 : v440 ≠ vb_523 := Nat.ne_of_lt (Nat.lt_of_lt_of_le f526.lt p523_1)
  have ne_c459_vb_523 : c459 ≠ vb_523 := Nat.ne_of_lt (Nat.lt_of_lt_of_le f527.lt p523_1)
  have ne_v459_vb_523 : v459 ≠ vb_523 := Nat.ne_of_lt (Nat.lt_of_lt_of_le f528.lt p523_1)
  have ne_va_437_vb_523 : va_437 ≠ vb_523 := Nat.ne_of_lt (Nat.lt_of_lt_of_le f529.lt p523_1)
  have ne_c481_vb_523 : c481 ≠ vb_523 := Nat.ne_of_lt (Nat.lt_of_lt_of_le f530.lt p523_1)
  have ne_v481_vb_523 : v481 ≠ vb_523 := Nat.ne_of_lt (Nat.lt_of_lt_of_le f531.lt p523_1)
  have ne_vb_472_vb_523 : vb_472 ≠ vb_523 := Nat.ne_of_lt (Nat.lt_of_lt_of_le f532.lt p523_1)
  have ne_c502_vb_523 : c502 ≠ vb_523 := Nat.ne_of_lt (Nat.lt_of_lt_of_le f533.lt p523_1)
  have ne_v502_vb_523 : v502 ≠ vb_523 := Nat.ne_of_lt (Nat.lt_of_lt_of_le f534.lt p523_1)
  have ne_vb_507_vb_523 : vb_507 ≠ vb_523 := Nat.ne_of_lt (Nat.lt_of_lt_of_le nm522.lt p523_1)
  refine GoS.of (T' := T523) (f' := (mkF m 51 #[rv (A 0)] [(.ref so_523)])) (fun _ k => st502 _ (st507 _ (st523 _ k))) ?_
  exact GoS.retA X523 hx hlk hS hk hZ hEL C535 rfl hret rfl rfl (D d0_51) (by decide) (by decide) ⟨so_523, vb_523, kb_523, rfl, N523, K536, z_so_523, p523_2, p523_3, p523_4, p523_5⟩
theorem ef_rm_ecf_14_16 (m : MethodId) (ob : Addr) : entryFrame m #[(.ref ob), (.int (14 : Int32))] 3 = mkF m 0 #[rv ob, iv (14 : Int32), .unset] [] := by first | (simp [entryFrame, mkF, argsToLocals, Value.category]; done) | rfl
set_option maxRecDepth 65536 in
set_option maxHeartbeats 40000000 in
theorem rm_ecf_14_16 {l : Launch} {Z : State} {a0 : Array Value} {A : Nat → Addr} {KC : Nat → Cell} {IC : Nat → Int32} {VC : Nat → Value} (hw : ∀ d ∈ tables_1, d.before a0 Z = true) (G : own_Ctx Z A KC IC VC) (ob : Addr) (va : Addr) (kv : ClassId) (bs : List Int32) (h0 : Heap) (O0 : Ext Z.heap h0) (prem0 : Exa Z h0 ob "java/lang/StringBuilder") (prem1 : Fld Z h0 ob "java/lang/AbstractStringBuilder" "value" "[B" (.ref va)) (prem2 : Fld Z h0 ob "java/lang/AbstractStringBuilder" "coder" "B" (.int (0 : Int32))) (prem3 : Arv Z h0 va kv .byte (16 : Int32) (bs.map Value.int) (.int (0 : Int32))) :
    Ok l Z own_m23 jdk_68_method_9_code 3 none ({ frames := 0, cells := 0, slots := 0, locals := 0 } : Room) #[(.ref ob), (.int (14 : Int32))] h0
      (fun v h L => v = none ∧ (h = h0) ∧ (L = [])) := by
  refine Ok.mk pn24 ?_
  intro p e s m below meth c T0 hx hby hml hown hnm hret hlk hZ e0 X0
  refine Go.cast (ef_rm_ecf_14_16 m ob) ?_
  have D := @hb _ _ hby
  have N0 := Fr.nil Z.heap.size
  have K0 : Keep h0 h0 [] := Keep.refl _ _
  obtain ⟨T537, X537, e537, st537⟩ := getF X0 hx hZ hown (host := "") (Or.inl (own_w hw (i := 32) rfl)) Via.refl e0 prem1 (g := (mkF m 1 #[rv ob, iv 14, .unset] [(.ref ob)])) rfl rfl (D d8_1)
  obtain ⟨cl538, Ar538, qk538, S538, Ng538, H538, G538⟩ := id prem3
  obtain ⟨T539, X539, e539, st539⟩ := getF X537 hx hZ hown (host := "") (Or.inl (own_w hw (i := 34) rfl)) Via.refl e537 prem2 (g := (mkF m 6 #[rv ob, iv 14, .unset] [(.ref ob), (.int 16)])) rfl rfl (D d8_6)
  refine Go.of (T' := T539) (f' := (mkF m 38 #[rv ob, iv 14, iv 16] [])) (fun _ k => XS.aloadN X0.here hx rfl (D d8_0) rfl rfl (st537 _ (X537.arraylength hx (by rw [e537]; exact Ar538.1) (State.isArrayOf_alike hZ.alike Ar538.2.1) (g := (mkF m 4 #[rv ob, iv 14, .unset] [(.ref va)])) rfl rfl (D d8_4) _ (by rw [len_of S538 Ng538]; exact (XS.aloadN X537.here hx rfl (D d8_5) rfl rfl (st539 _ (XS.ishr X539.here hx rfl (D d8_9) rfl (XS.istoreN X539.here hx rfl (D d8_10) rfl (l' := #[rv ob, iv 14, iv 16]) rfl (XS.iloadN X539.here hx rfl (D d8_11) rfl (XS.iloadN X539.here hx rfl (D d8_12) rfl (XS.isub X539.here hx rfl (D d8_13) rfl (XS.ifYes X539.here hx rfl (pc0 := 14) (pc' := 38) rfl (D d8_14) rfl ((if0 _ _).trans (flt (by decide : ¬ ((0 : Int32) < (-2 : Int32)))).2.2.2) (by decide) (by decide) k)))))))))))) ?_
  exact Go.retV X539 hx hlk hret (D d8_38) (by decide) (by decide) (by rw [e539]; exact ⟨rfl, rfl, by simp⟩)
theorem ef_rm_getb_2_12_16 (m : MethodId) (so : Addr) (va : Addr) : entryFrame m #[(.ref so), (.ref va), (.int (2 : Int32)), (.int (0 : Int32))] 4 = mkF m 0 #[rv so, rv va, iv (2 : Int32), iv (0 : Int32)] [] := by first | (simp [entryFrame, mkF, argsToLocals, Value.category]; done) | rfl
set_option maxRecDepth 65536 in
set_option maxHeartbeats 40000000 in
theorem rm_getb_2_12_16 {l : Launch} {Z : State} {a0 : Array Value} {A : Nat → Addr} {KC : Nat → Cell} {IC : Nat → Int32} {VC : Nat → Value} (hw : ∀ d ∈ tables_1, d.before a0 Z = true) (G : own_Ctx Z A KC IC VC) (so : Addr) (va : Addr) (sv : Addr) (ks : ClassId) (ts : List Int32) (kv : ClassId) (bs : List Int32) (h0 : Heap) (O0 : Ext Z.heap h0) (prem0 : bs.length = 2) (prem1 : ts.length = 12) (prem2 : Exa Z h0 so "java/lang/String") (prem3 : Fld Z h0 so "java/lang/String" "value" "[B" (.ref sv)) (prem4 : Fld Z h0 so "java/lang/String" "coder" "B" (.int (0 : Int32))) (prem5 : Arv Z h0 sv ks .byte (12 : Int32) (ts.map Value.int) (.int (0 : Int32))) (prem6 : Arv Z h0 va kv .byte (16 : Int32) (bs.map Value.int) (.int (0 : Int32))) (prem7 : Z.heap.size ≤ va) :
    Ok l Z own_m25 jdk_42_method_147_code 4 none ({ frames := 1, cells := 0, slots := 0, locals := 18 } : Room) #[(.ref so), (.ref va), (.int (2 : Int32)), (.int (0 : Int32))] h0
      (fun v h L => v = none ∧ (Fr Z.heap.size L) ∧ (Keep h0 h [va]) ∧ (Arv Z h va kv .byte (16 : Int32) ((bs ++ ts).map Value.int) (.int (0 : Int32)))) := by
  refine Ok.mk pn26 ?_
  intro p e s m below meth c T0 hx hby hml hown hnm hret hlk hZ e0 X0
  refine Go.cast (ef_rm_getb_2_12_16 m so va) ?_
  have D := @hb _ _ hby
  have N0 := Fr.nil Z.heap.size
  have K0 : Keep h0 h0 [va] := Keep.refl _ _
  obtain ⟨T541, v541, L541, X541, q541, st541⟩ := callVi X0 hx hZ (y := own_m5) (z := own_m5) hown (own_w hw (i := 53) rfl) (own_w hw (i := 54) rfl) (notFace_of_selects (args := #[]) (mvT hZ (own_w hw (i := 56) rfl))) (own_w hw (i := 56) rfl) (own_w hw (i := 55) rfl) (own_w hw (i := 57) rfl) (own_w hw (i := 4) rfl) (by decide) (rm_coder hw G so  h0 O0 prem4) e0 (W := 0) (by decide) (by decide) (by decide) (by decide) prem2 (g := (mkF m 1 #[rv so, rv va, iv 2, iv 0] [(.ref so)])) rfl (by rw [hml]; rfl) (argsL := []) (rest := []) (lenOf pd7 rfl) rfl rfl (Nat.le_of_eq rfl) (D d11_1)
  obtain ⟨rfl, e541, rfl⟩ := q541
  have N541 := Fr.app N0 (Fr.nil _)
  obtain ⟨T543, X543, e543, st543⟩ := getF X541 hx hZ hown (host := "") (Or.inl (own_w hw (i := 52) rfl)) Via.refl e541 prem3 (g := (mkF m 9 #[rv so, rv va, iv 2, iv 0] [(.ref so)])) rfl rfl (D d11_9)
  obtain ⟨T544, X544, e544, st544⟩ := getF X543 hx hZ hown (host := "") (Or.inl (own_w hw (i := 52) rfl)) Via.refl e543 prem3 (g := (mkF m 18 #[rv so, rv va, iv 2, iv 0] [(.ref so), (.int 2), (.ref va), (.int 0), (.ref sv)])) rfl rfl (D d11_18)
  obtain ⟨cl545, Ar545, qk545, S545, Ng545, H545, G545⟩ := id prem5
  obtain ⟨T546, h546, L546, X546, e546, N546, Kq546, V546, st546⟩ := own_cpG X544 hx hZ hown (own_w hw (i := 83) rfl) (own_w hw (i := 86) rfl) (own_w hw (i := 84) rfl) (own_w hw (i := 85) rfl) e544 prem5 prem6 (dp := (2 : Int32)) (nn := (12 : Int32)) (by rw [prem0]; decide) (by decide) (by decide) (by rw [prem1]; decide) (by decide) (by decide) N541 prem7 (g := (mkF m 22 #[rv so, rv va, iv 2, iv 0] [(.int 12), (.int 2), (.ref va), (.int 0), (.ref sv)])) rfl (by rw [hml]; rfl) rfl (D d11_22) (by decide) (W := 0) (Nat.le_of_eq rfl) (by decide)
  have O547 := Old0.keep O0 Kq546 (allS prem7 all0)
  have K547 := Keep.trans K0 Kq546 (allS (Or.inl (List.mem_of_getElem? (i := 0) rfl)) all0)
  refine Go.of (T' := T546) (f' := (mkF m 43 #[rv so, rv va, iv 2, iv 0] [])) (fun _ k => XS.aloadN X0.here hx rfl (D d11_0) rfl rfl (st541 _ (XS.iloadN X541.here hx rfl (D d11_4) rfl (XS.icmpNo X541.here hx rfl (D d11_5) rfl (teq (by decide : (0 : Int32) = (0 : Int32))).2 (XS.aloadN X541.here hx rfl (D d11_8) rfl rfl (st543 _ (XS.iconst X543.here hx rfl (D d11_12) (XS.aloadN X543.here hx rfl (D d11_13) rfl rfl (XS.iloadN X543.here hx rfl (D d11_14) rfl (XS.iloadN X543.here hx rfl (D d11_15) rfl (XS.ishl X543.here hx rfl (D d11_16) rfl (XS.aloadN X543.here hx rfl (D d11_17) rfl rfl (st544 _ (X544.arraylength hx (by rw [e544]; exact Ar545.1) (State.isArrayOf_alike hZ.alike Ar545.2.1) (g := (mkF m 21 #[rv so, rv va, iv 2, iv 0] [(.ref sv), (.int 2), (.ref va), (.int 0), (.ref sv)])) rfl rfl (D d11_21) _ (by rw [len_of S545 Ng545]; exact (st546 _ (XS.goto X546.here hx rfl (pc0 := 25) (pc' := 43) rfl (D d11_25) (by decide) (by decide) k))))))))))))))))) ?_
  exact Go.retV X546 hx hlk hret (D d11_43) (by decide) (by decide) (by rw [e546]; exact ⟨rfl, N546, K547, V546⟩)
theorem ef_rm_put_2_12_16 (m : MethodId) (ob : Addr) (so : Addr) : entryFrame m #[(.ref ob), (.int (2 : Int32)), (.ref so)] 3 = mkF m 0 #[rv ob, iv (2 : Int32), rv so] [] := by first | (simp [entryFrame, mkF, argsToLocals, Value.category]; done) | rfl
set_option maxRecDepth 65536 in
set_option maxHeartbeats 40000000 in
theorem rm_put_2_12_16 {l : Launch} {Z : State} {a0 : Array Value} {A : Nat → Addr} {KC : Nat → Cell} {IC : Nat → Int32} {VC : Nat → Value} (hw : ∀ d ∈ tables_1, d.before a0 Z = true) (G : own_Ctx Z A KC IC VC) (ob : Addr) (so : Addr) (sv : Addr) (ks : ClassId) (ts : List Int32) (va : Addr) (kv : ClassId) (bs : List Int32) (h0 : Heap) (O0 : Ext Z.heap h0) (prem0 : bs.length = 2) (prem1 : ts.length = 12) (prem2 : Exa Z h0 ob "java/lang/StringBuilder") (prem3 : Fld Z h0 ob "java/lang/AbstractStringBuilder" "value" "[B" (.ref va)) (prem4 : Fld Z h0 ob "java/lang/AbstractStringBuilder" "coder" "B" (.int (0 : Int32))) (prem5 : Exa Z h0 so "java/lang/String") (prem6 : Fld Z h0 so "java/lang/String" "value" "[B" (.ref sv)) (prem7 : Fld Z h0 so "java/lang/String" "coder" "B" (.int (0 : Int32))) (prem8 : Arv Z h0 sv ks .byte (12 : Int32) (ts.map Value.int) (.int (0 : Int32))) (prem9 : Arv Z h0 va kv .byte (16 : Int32) (bs.map Value.int) (.int (0 : Int32))) (prem10 : Z.heap.size ≤ va) :
    Ok l Z own_m29 jdk_68_method_73_code 3 none ({ frames := 2, cells := 0, slots := 0, locals := 33 } : Room) #[(.ref ob), (.int (2 : Int32)), (.ref so)] h0
      (fun v h L => v = none ∧ (Fr Z.heap.size L) ∧ (Keep h0 h [va]) ∧ (Arv Z h va kv .byte (16 : Int32) ((bs ++ ts).map Value.int) (.int (0 : Int32)))) := by
  refine Ok.mk pn30 ?_
  intro p e s m below meth c T0 hx hby hml hown hnm hret hlk hZ e0 X0
  refine Go.cast (ef_rm_put_2_12_16 m ob so) ?_
  have D := @hb _ _ hby
  have N0 := Fr.nil Z.heap.size
  have K0 : Keep h0 h0 [va] := Keep.refl _ _
  obtain ⟨T548, v548, L548, X548, q548, st548⟩ := callPr X0 hx hZ (y := own_m10) hown (own_w hw (i := 72) rfl) (own_w hw (i := 73) rfl) (own_selfsel (own_w hw (i := 73) rfl) (own_w hw (i := 75) rfl) (own_w hw (i := 74) rfl) (by decide)) (own_w hw (i := 74) rfl) (own_w hw (i := 26) rfl) (own_w hw (i := 76) rfl) (by decide) (rm_infl hw G ob so  h0 O0 prem4 prem5 prem7) e0 (W := 0) (by decide) (by decide) (by decide) (by decide) prem2 (g := (mkF m 2 #[rv ob, iv 2, rv so] [(.ref so), (.ref ob)])) rfl (by rw [hml]; rfl) (a := ob) (argsL := [(.ref so)]) (rest := []) (lenOf pd27 rfl) rfl rfl (Nat.le_of_eq rfl) (D d9_2)
  obtain ⟨rfl, e548, rfl⟩ := q548
  have N548 := Fr.app N0 (Fr.nil _)
  obtain ⟨T549, X549, e549, st549⟩ := getF X548 hx hZ hown (host := "") (Or.inl (own_w hw (i := 32) rfl)) Via.refl e548 prem3 (g := (mkF m 7 #[rv ob, iv 2, rv so] [(.ref ob), (.ref so)])) rfl rfl (D d9_7)
  obtain ⟨T550, X550, e550, st550⟩ := getF X549 hx hZ hown (host := "") (Or.inl (own_w hw (i := 34) rfl)) Via.refl e549 prem4 (g := (mkF m 12 #[rv ob, iv 2, rv so] [(.ref ob), (.int 2), (.ref va), (.ref so)])) rfl rfl (D d9_12)
  obtain ⟨T551, v551, L551, X551, q551, st551⟩ := callVi X550 hx hZ (y := own_m25) (z := own_m25) hown (own_w hw (i := 78) rfl) (own_w hw (i := 79) rfl) (notFace_of_selects (args := #[]) (mvT hZ (own_w hw (i := 81) rfl))) (own_w hw (i := 81) rfl) (own_w hw (i := 80) rfl) (own_w hw (i := 82) rfl) (own_w hw (i := 4) rfl) (by decide) (rm_getb_2_12_16 hw G so va sv ks ts kv bs h0 O0 (prem0) (prem1) prem5 prem6 prem7 prem8 prem9 prem10) e550 (W := 0) (by decide) (by decide) (by decide) (by decide) prem5 (g := (mkF m 15 #[rv ob, iv 2, rv so] [(.int 0), (.int 2), (.ref va), (.ref so)])) rfl (by rw [hml]; rfl) (argsL := [(.ref va), (.int 2), (.int 0)]) (rest := []) (lenOf pd28 rfl) rfl rfl (Nat.le_of_eq rfl) (D d9_15)
  obtain ⟨rfl, N551q, K551q, p551_0⟩ := q551
  have N551 := Fr.app N548 N551q
  have O552 := Old0.keep O0 K551q (allS prem10 all0)
  have K552 := Keep.trans K0 K551q (allS (Or.inl (List.mem_of_getElem? (i := 0) rfl)) all0)
  refine Go.of (T' := T551) (f' := (mkF m 18 #[rv ob, iv 2, rv so] [])) (fun _ k => XS.aloadN X0.here hx rfl (D d9_0) rfl rfl (XS.aloadN X0.here hx rfl (D d9_1) rfl rfl (st548 _ (XS.aloadN X548.here hx rfl (D d9_5) rfl rfl (XS.aloadN X548.here hx rfl (D d9_6) rfl rfl (st549 _ (XS.iloadN X549.here hx rfl (D d9_10) rfl (XS.aloadN X549.here hx rfl (D d9_11) rfl rfl (st550 _ (st551 _ k)))))))))) ?_
  exact Go.retV X551 hx hlk hret (D d9_18) (by decide) (by decide) ⟨rfl, N551, K552, p551_0⟩
theorem ef_rm_aba_2_12_16 (m : MethodId) (ob : Addr) (so : Addr) : entryFrame m #[(.ref ob), (.ref so)] 3 = mkF m 0 #[rv ob, rv so, .unset] [] := by first | (simp [entryFrame, mkF, argsToLocals, Value.category]; done) | rfl
set_option maxRecDepth 65536 in
set_option maxHeartbeats 40000000 in
theorem rm_aba_2_12_16 {l : Launch} {Z : State} {a0 : Array Value} {A : Nat → Addr} {KC : Nat → Cell} {IC : Nat → Int32} {VC : Nat → Value} (hw : ∀ d ∈ tables_1, d.before a0 Z = true) (G : own_Ctx Z A KC IC VC) (ob : Addr) (so : Addr) (sv : Addr) (ks : ClassId) (ts : List Int32) (va : Addr) (kv : ClassId) (bs : List Int32) (h0 : Heap) (O0 : Ext Z.heap h0) (prem0 : bs.length = 2) (prem1 : ts.length = 12) (prem2 : Exa Z h0 ob "java/lang/StringBuilder") (prem3 : Fld Z h0 ob "java/lang/AbstractStringBuilder" "value" "[B" (.ref va)) (prem4 : Fld Z h0 ob "java/lang/AbstractStringBuilder" "coder" "B" (.int (0 : Int32))) (prem5 : Fld Z h0 ob "java/lang/AbstractStringBuilder" "count" "I" (.int (2 : Int32))) (prem6 : Exa Z h0 so "java/lang/String") (prem7 : Fld Z h0 so "java/lang/String" "value" "[B" (.ref sv)) (prem8 : Fld Z h0 so "java/lang/String" "coder" "B" (.int (0 : Int32))) (prem9 : Arv Z h0 sv ks .byte (12 : Int32) (ts.map Value.int) (.int (0 : Int32))) (prem10 : Arv Z h0 va kv .byte (16 : Int32) (bs.map Value.int) (.int (0 : Int32))) (prem11 : Z.heap.size ≤ ob) (prem12 : Z.heap.size ≤ va) (prem13 : ob ≠ va) (prem14 : so ≠ ob) (prem15 : sv ≠ ob) (prem16 : so ≠ va) (prem17 : sv ≠ va) :
    Ok l Z own_m33 jdk_68_method_22_code 3 (some (.object "java/lang/AbstractStringBuilder")) ({ frames := 3, cells := 0, slots := 0, locals := 47 } : Room) #[(.ref ob), (.ref so)] h0
      (fun v h L => v = some (.ref ob) ∧ (Fr Z.heap.size L) ∧ (Keep h0 h [ob, va]) ∧ (Fld Z h ob "java/lang/AbstractStringBuilder" "value" "[B" (.ref va)) ∧ (Fld Z h ob "java/lang/AbstractStringBuilder" "coder" "B" (.int (0 : Int32))) ∧ (Fld Z h ob "java/lang/AbstractStringBuilder" "count" "I" (.int (14 : Int32))) ∧ (Arv Z h va kv .byte (16 : Int32) ((bs ++ ts).map Value.int) (.int (0 : Int32)))) := by
  refine Ok.mk pn34 ?_
  intro p e s m below meth c T0 hx hby hml hown hnm hret hlk hZ e0 X0
  refine Go.cast (ef_rm_aba_2_12_16 m ob so) ?_
  have D := @hb _ _ hby
  have N0 := Fr.nil Z.heap.size
  have K0 : Keep h0 h0 [ob, va] := Keep.refl _ _
  obtain ⟨T553, v553, L553, X553, q553, st553⟩ := callVi X0 hx hZ (y := own_m8) (z := own_m8) hown (own_w hw (i := 47) rfl) (own_w hw (i := 48) rfl) (notFace_of_selects (args := #[]) (mvT hZ (own_w hw (i := 50) rfl))) (own_w hw (i := 50) rfl) (own_w hw (i := 49) rfl) (own_w hw (i := 51) rfl) (own_w hw (i := 4) rfl) (by decide) (rm_len hw G so sv ks ((12 : Int32)) ts h0 O0 prem6 prem7 prem8 prem9 (by decide)) e0 (W := 0) (by decide) (by decide) (by decide) (by decide) prem6 (g := (mkF m 10 #[rv ob, rv so, .unset] [(.ref so)])) rfl (by rw [hml]; rfl) (argsL := []) (rest := []) (lenOf pd31 rfl) rfl rfl (Nat.le_of_eq rfl) (D d5_10)
  obtain ⟨rfl, e553, rfl⟩ := q553
  have N553 := Fr.app N0 (Fr.nil _)
  obtain ⟨T554, X554, e554, st554⟩ := getF X553 hx hZ hown (host := "") (Or.inl (own_w hw (i := 60) rfl)) Via.refl e553 prem5 (g := (mkF m 16 #[rv ob, rv so, iv 12] [(.ref ob), (.ref ob)])) rfl rfl (D d5_16)
  obtain ⟨T555, v555, L555, X555, q555, st555⟩ := callPr X554 hx hZ (y := own_m23) hown (own_w hw (i := 62) rfl) (own_w hw (i := 63) rfl) (own_selfsel (own_w hw (i := 63) rfl) (own_w hw (i := 65) rfl) (own_w hw (i := 64) rfl) (by decide)) (own_w hw (i := 64) rfl) (own_w hw (i := 26) rfl) (own_w hw (i := 66) rfl) (by decide) (rm_ecf_14_16 hw G ob va kv bs h0 O0 prem2 prem3 prem4 prem10) e554 (W := 0) (by decide) (by decide) (by decide) (by decide) prem2 (g := (mkF m 21 #[rv ob, rv so, iv 12] [(.int 14), (.ref ob)])) rfl (by rw [hml]; rfl) (a := ob) (argsL := [(.int 14)]) (rest := []) (lenOf pd2 rfl) rfl rfl (Nat.le_of_eq rfl) (D d5_21)
  obtain ⟨rfl, e555, rfl⟩ := q555
  have N555 := Fr.app N553 (Fr.nil _)
  obtain ⟨T556, X556, e556, st556⟩ := getF X555 hx hZ hown (host := "") (Or.inl (own_w hw (i := 60) rfl)) Via.refl e555 prem5 (g := (mkF m 26 #[rv ob, rv so, iv 12] [(.ref ob), (.ref ob)])) rfl rfl (D d5_26)
  obtain ⟨T557, v557, L557, X557, q557, st557⟩ := callPr X556 hx hZ (y := own_m29) hown (own_w hw (i := 67) rfl) (own_w hw (i := 68) rfl) (own_selfsel (own_w hw (i := 68) rfl) (own_w hw (i := 70) rfl) (own_w hw (i := 69) rfl) (by decide)) (own_w hw (i := 69) rfl) (own_w hw (i := 26) rfl) (own_w hw (i := 71) rfl) (by decide) (rm_put_2_12_16 hw G ob so sv ks ts va kv bs h0 O0 (prem0) (prem1) prem2 prem3 prem4 prem6 prem7 prem8 prem9 prem10 prem12) e556 (W := 0) (by decide) (by decide) (by decide) (by decide) prem2 (g := (mkF m 30 #[rv ob, rv so, iv 12] [(.ref so), (.int 2), (.ref ob)])) rfl (by rw [hml]; rfl) (a := ob) (argsL := [(.int 2), (.ref so)]) (rest := []) (lenOf pd32 rfl) rfl rfl (Nat.le_of_eq rfl) (D d5_30)
  obtain ⟨rfl, N557q, K557q, p557_0⟩ := q557
  have N557 := Fr.app N555 N557q
  have O558 := Old0.keep O0 K557q (allS prem12 all0)
  have K558 := Keep.trans K0 K557q (allS (Or.inl (List.mem_of_getElem? (i := 1) rfl)) all0)
  have f560 : Fld Z T557.heap ob "java/lang/AbstractStringBuilder" "count" "I" (.int 2) := (Fld.keep prem5 K557q (ninS prem13 nin0))
  obtain ⟨T559, X559, e559, st559⟩ := getF X557 hx hZ hown (host := "") (Or.inl (own_w hw (i := 60) rfl)) Via.refl rfl f560 (g := (mkF m 35 #[rv ob, rv so, iv 12] [(.ref ob), (.ref ob)])) rfl rfl (D d5_35)
  have f562 : Exa Z T557.heap ob "java/lang/StringBuilder" := (Exa.keep prem2 K557q)
  obtain ⟨T561, h561, X561, e561, W561, st561⟩ := putF X559 hx hZ hown (host := "") (Or.inl (own_w hw (i := 60) rfl)) Via.refl e559 f560 f562 (Or.inl (own_w hw (i := 61) rfl)) (own_w hw (i := 17) rfl) (ty := .int) (by decide) rfl rfl (g := (mkF m 40 #[rv ob, rv so, iv 12] [(.int 14), (.ref ob)])) rfl rfl (D d5_40)
  have O563 := Old0.wr O558 W561 prem11
  have K563 := Keep.wr K558 W561 (Or.inl (List.mem_of_getElem? (i := 0) rfl))
  have N561 := Fr.snoc X561 N557 prem11
  have f561 : Fld Z h561 ob "java/lang/AbstractStringBuilder" "count" "I" (.int 14) := Fld.same W561 f560
  have f564 : Fld Z h561 ob "java/lang/AbstractStringBuilder" "value" "[B" (.ref va) := (Fld.other W561 (Fld.keep prem3 K557q (ninS prem13 nin0)) (Or.inr (slot_ne (Or.inl (own_w hw (i := 33) rfl)) (Or.inl (own_w hw (i := 61) rfl)) (by decide) (t := (.array .byte)) (t' := .int) (by decide) (by decide))))
  have f565 : Fld Z h561 ob "java/lang/AbstractStringBuilder" "coder" "B" (.int 0) := (Fld.other W561 (Fld.keep prem4 K557q (ninS prem13 nin0)) (Or.inr (slot_ne (Or.inl (own_w hw (i := 35) rfl)) (Or.inl (own_w hw (i := 61) rfl)) (by decide) (t := .byte) (t' := .int) (by decide) (by decide))))
  have f566 : Arv Z h561 va kv .byte (16 : Int32) ((bs ++ ts).map Value.int) (.int 0) := (Arv.other p557_0 W561 (Ne.symm prem13))
  refine Go.of (T' := T561) (f' := (mkF m 44 #[rv ob, rv so, iv 12] [(.ref ob)])) (fun _ k => XS.aloadN X0.here hx rfl (D d5_0) rfl rfl (XS.ifnonnullYes X0.here hx rfl (pc0 := 1) (pc' := 9) rfl (D d5_1) rfl (by decide) (by decide) (XS.aloadN X0.here hx rfl (D d5_9) rfl rfl (st553 _ (XS.istoreN X553.here hx rfl (D d5_13) rfl (l' := #[rv ob, rv so, iv 12]) rfl (XS.aloadN X553.here hx rfl (D d5_14) rfl rfl (XS.aloadN X553.here hx rfl (D d5_15) rfl rfl (st554 _ (XS.iloadN X554.here hx rfl (D d5_19) rfl (XS.iadd X554.here hx rfl (D d5_20) rfl (st555 _ (XS.aloadN X555.here hx rfl (D d5_24) rfl rfl (XS.aloadN X555.here hx rfl (D d5_25) rfl rfl (st556 _ (XS.aloadN X556.here hx rfl (D d5_29) rfl rfl (st557 _ (XS.aloadN X557.here hx rfl (D d5_33) rfl rfl (XS.dup X557.here hx rfl (D d5_34) rfl rfl (st559 _ (XS.iloadN X559.here hx rfl (D d5_38) rfl (XS.iadd X559.here hx rfl (D d5_39) rfl (st561 _ (XS.aloadN X561.here hx rfl (D d5_43) rfl rfl k))))))))))))))))))))))) ?_
  exact Go.retA X561 hx hlk hret rfl rfl (D d5_44) (by decide) (by decide) (by rw [e561]; exact ⟨rfl, N561, K563, f564, f565, f561, f566⟩)
theorem ef_rm_sba_2_12_16 (m : MethodId) (ob : Addr) (so : Addr) : entryFrame m #[(.ref ob), (.ref so)] 2 = mkF m 0 #[rv ob, rv so] [] := by first | (simp [entryFrame, mkF, argsToLocals, Value.category]; done) | rfl
set_option maxRecDepth 65536 in
set_option maxHeartbeats 40000000 in
theorem rm_sba_2_12_16 {l : Launch} {Z : State} {a0 : Array Value} {A : Nat → Addr} {KC : Nat → Cell} {IC : Nat → Int32} {VC : Nat → Value} (hw : ∀ d ∈ tables_1, d.before a0 Z = true) (G : own_Ctx Z A KC IC VC) (ob : Addr) (so : Addr) (sv : Addr) (ks : ClassId) (ts : List Int32) (va : Addr) (kv : ClassId) (bs : List Int32) (h0 : Heap) (O0 : Ext Z.heap h0) (prem0 : bs.length = 2) (prem1 : ts.length = 12) (prem2 : Exa Z h0 ob "java/lang/StringBuilder") (prem3 : Fld Z h0 ob "java/lang/AbstractStringBuilder" "value" "[B" (.ref va)) (prem4 : Fld Z h0 ob "java/lang/AbstractStringBuilder" "coder" "B" (.int (0 : Int32))) (prem5 : Fld Z h0 ob "java/lang/AbstractStringBuilder" "count" "I" (.int (2 : Int32))) (prem6 : Exa Z h0 so "java/lang/String") (prem7 : Fld Z h0 so "java/lang/String" "value" "[B" (.ref sv)) (prem8 : Fld Z h0 so "java/lang/String" "coder" "B" (.int (0 : Int32))) (prem9 : Arv Z h0 sv ks .byte (12 : Int32) (ts.map Value.int) (.int (0 : Int32))) (prem10 : Arv Z h0 va kv .byte (16 : Int32) (bs.map Value.int) (.int (0 : Int32))) (prem11 : Z.heap.size ≤ ob) (prem12 : Z.heap.size ≤ va) (prem13 : ob ≠ va) (prem14 : so ≠ ob) (prem15 : sv ≠ ob) (prem16 : so ≠ va) (prem17 : sv ≠ va) :
    Ok l Z own_m36 jdk_67_method_7_code 2 (some (.object "java/lang/StringBuilder")) ({ frames := 4, cells := 0, slots := 0, locals := 61 } : Room) #[(.ref ob), (.ref so)] h0
      (fun v h L => v = some (.ref ob) ∧ (Fr Z.heap.size L) ∧ (Keep h0 h [ob, va]) ∧ (Fld Z h ob "java/lang/AbstractStringBuilder" "value" "[B" (.ref va)) ∧ (Fld Z h ob "java/lang/AbstractStringBuilder" "coder" "B" (.int (0 : Int32))) ∧ (Fld Z h ob "java/lang/AbstractStringBuilder" "count" "I" (.int (14 : Int32))) ∧ (Arv Z h va kv .byte (16 : Int32) ((bs ++ ts).map Value.int) (.int (0 : Int32)))) := by
  refine Ok.mk pn37 ?_
  intro p e s m below meth c T0 hx hby hml hown hnm hret hlk hZ e0 X0
  refine Go.cast (ef_rm_sba_2_12_16 m ob so) ?_
  have D := @hb _ _ hby
  have N0 := Fr.nil Z.heap.size
  have K0 : Keep h0 h0 [ob, va] := Keep.refl _ _
  obtain ⟨T567, v567, L567, X567, q567, st567⟩ := callSu X0 hx hZ (y := own_m33) hown (own_w hw (i := 42) rfl) (nf_mate (own_w hw (i := 65) rfl) rfl) (own_w hw (i := 43) rfl) (own_w hw (i := 44) rfl) (by decide) (own_w hw (i := 46) rfl) (own_w hw (i := 26) rfl) (by decide) (rm_aba_2_12_16 hw G ob so sv ks ts va kv bs h0 O0 (prem0) (prem1) prem2 prem3 prem4 prem5 prem6 prem7 prem8 prem9 prem10 prem11 prem12 prem13 prem14 prem15 prem16 prem17) e0 (W := 0) (by decide) (by decide) (by decide) (by decide) (Ins.self prem2) (g := (mkF m 2 #[rv ob, rv so] [(.ref so), (.ref ob)])) rfl (by rw [hml]; rfl) (argsL := [(.ref so)]) (rest := []) (lenOf pd35 rfl) rfl rfl (Nat.le_of_eq rfl) (D d4_2)
  obtain ⟨rfl, N567q, K567q, p567_0, p567_1, p567_2, p567_3⟩ := q567
  have N567 := Fr.app N0 N567q
  have O568 := Old0.keep O0 K567q (allS prem11 (allS prem12 all0))
  have K568 := Keep.trans K0 K567q (allS (Or.inl (List.mem_of_getElem? (i := 0) rfl)) (allS (Or.inl (List.mem_of_getElem? (i := 1) rfl)) all0))
  refine Go.of (T' := T567) (f' := (mkF m 7 #[rv ob, rv so] [(.ref ob)])) (fun _ k => XS.aloadN X0.here hx rfl (D d4_0) rfl rfl (XS.aloadN X0.here hx rfl (D d4_1) rfl rfl (st567 _ (XT.pop X567.here hx rfl (D d4_5) rfl rfl (XS.aloadN X567.here hx rfl (D d4_6) rfl rfl k))))) ?_
  exact Go.retA X567 hx hlk hret rfl rfl (D d4_7) (by decide) (by decide) ⟨rfl, N567, K568, p567_0, p567_1, p567_2, p567_3⟩
theorem ef_rm_max_7_18 (m : MethodId)  : entryFrame m #[(.int (7 : Int32)), (.int (18 : Int32))] 2 = mkF m 0 #[iv (7 : Int32), iv (18 : Int32)] [] := by first | (simp [entryFrame, mkF, argsToLocals, Value.category]; done) | rfl
set_option maxRecDepth 65536 in
set_option maxHeartbeats 40000000 in
theorem rm_max_7_18 {l : Launch} {Z : State} {a0 : Array Value} {A : Nat → Addr} {KC : Nat → Cell} {IC : Nat → Int32} {VC : Nat → Value} (hw : ∀ d ∈ tables_1, d.before a0 Z = true) (G : own_Ctx Z A KC IC VC)   (h0 : Heap) (O0 : Ext Z.heap h0)  :
    Ok l Z own_m38 jdk_29_method_65_code 2 (some .int) ({ frames := 0, cells := 0, slots := 0, locals := 0 } : Room) #[(.int (7 : Int32)), (.int (18 : Int32))] h0
      (fun v h L => v = some (.int (18 : Int32)) ∧ (h = h0) ∧ (L = [])) := by
  refine Ok.mk pn_java_lang_Math_max__II_I ?_
  intro p e s m below meth c T0 hx hby hml hown hnm hret hlk hZ e0 X0
  refine Go.cast (ef_rm_max_7_18 m ) ?_
  have D := @hb _ _ hby
  have N0 := Fr.nil Z.heap.size
  have K0 : Keep h0 h0 [] := Keep.refl _ _
  refine Go.of (T' := T0) (f' := (mkF m 10 #[iv 7, iv 18] [(.int 18)])) (fun _ k => XS.iloadN X0.here hx rfl (D d17_0) rfl (XS.iloadN X0.here hx rfl (D d17_1) rfl (XS.icmpYes X0.here hx rfl (pc0 := 2) (pc' := 9) rfl (D d17_2) rfl (tlt (by decide : (7 : Int32) < (18 : Int32))).1 (by decide) (by decide) (XS.iloadN X0.here hx rfl (D d17_9) rfl k)))) ?_
  exact Go.retI X0 hx hlk hret (D d17_10) (by decide) (by decide) (by rw [e0]; exact ⟨rfl, rfl, by simp⟩)
theorem ef_rm_nlen_16_7_18 (m : MethodId)  : entryFrame m #[(.int (16 : Int32)), (.int (7 : Int32)), (.int (18 : Int32))] 4 = mkF m 0 #[iv (16 : Int32), iv (7 : Int32), iv (18 : Int32), .unset] [] := by first | (simp [entryFrame, mkF, argsToLocals, Value.category]; done) | rfl
set_option maxRecDepth 65536 in
set_option maxHeartbeats 40000000 in
theorem rm_nlen_16_7_18 {l : Launch} {Z : State} {a0 : Array Value} {A : Nat → Addr} {KC : Nat → Cell} {IC : Nat → Int32} {VC : Nat → Value} (hw : ∀ d ∈ tables_1, d.before a0 Z = true) (G : own_Ctx Z A KC IC VC)   (h0 : Heap) (O0 : Ext Z.heap h0)  :
    Ok l Z own_m40 jdk_48_method_27_code 4 (some .int) ({ frames := 1, cells := 0, slots := 0, locals := 14 } : Room) #[(.int (16 : Int32)), (.int (7 : Int32)), (.int (18 : Int32))] h0
      (fun v h L => v = some (.int (34 : Int32)) ∧ (h = h0) ∧ (L = [])) := by
  refine Ok.mk pn41 ?_
  intro p e s m below meth c T0 hx hby hml hown hnm hret hlk hZ e0 X0
  refine Go.cast (ef_rm_nlen_16_7_18 m ) ?_
  have D := @hb _ _ hby
  have N0 := Fr.nil Z.heap.size
  have K0 : Keep h0 h0 [] := Keep.refl _ _
  obtain ⟨T570, v570, L570, X570, q570, st570⟩ := callSt X0 hx hZ (y := own_m38) hown (own_w hw (i := 114) rfl) (own_w hw (i := 115) rfl) (own_w hw (i := 116) rfl) (own_w hw (i := 117) rfl) (by decide) (rm_max_7_18 hw G   h0 O0 ) e0 (W := 1) (by decide) (by decide) (by decide) (by decide) (g := (mkF m 3 #[iv 16, iv 7, iv 18, .unset] [(.int 18), (.int 7), (.int 16)])) rfl (by rw [hml]; rfl) (argsL := [(.int 7), (.int 18)]) (rest := [(.int 16)]) (lenOf pd39 rfl) rfl rfl (Nat.le_of_eq rfl) (D d16_3)
  obtain ⟨rfl, e570, rfl⟩ := q570
  have N570 := Fr.app N0 (Fr.nil _)
  refine Go.of (T' := T570) (f' := (mkF m 20 #[iv 16, iv 7, iv 18, iv 34] [(.int 34)])) (fun _ k => XS.iloadN X0.here hx rfl (D d16_0) rfl (XS.iloadN X0.here hx rfl (D d16_1) rfl (XS.iloadN X0.here hx rfl (D d16_2) rfl (st570 _ (XS.iadd X570.here hx rfl (D d16_6) rfl (XS.istoreN X570.here hx rfl (D d16_7) rfl (l' := #[iv 16, iv 7, iv 18, iv 34]) rfl (XS.iconst X570.here hx rfl (D d16_8) (XS.iloadN X570.here hx rfl (D d16_9) rfl (XS.icmpNo X570.here hx rfl (D d16_10) rfl (tlt (by decide : (0 : Int32) < (34 : Int32))).2.1 (XS.iloadN X570.here hx rfl (D d16_13) rfl (X570.ldcInt hx hown (mvT hZ (own_w hw (i := 118) rfl)) (g := (mkF m 14 #[iv 16, iv 7, iv 18, iv 34] [(.int 34)])) rfl (D d16_14) _ (XS.icmpNo X570.here hx rfl (D d16_16) rfl (flt (by decide : ¬ ((2147483639 : Int32) < (34 : Int32)))).2.2.1 (XS.iloadN X570.here hx rfl (D d16_19) rfl k))))))))))))) ?_
  exact Go.retI X570 hx hlk hret (D d16_20) (by decide) (by decide) (by rw [e570]; exact ⟨rfl, rfl, by simp⟩)
theorem ef_rm_ncap_23_16 (m : MethodId) (ob : Addr) : entryFrame m #[(.ref ob), (.int (23 : Int32))] 6 = mkF m 0 #[rv ob, iv (23 : Int32), .unset, .unset, .unset, .unset] [] := by first | (simp [entryFrame, mkF, argsToLocals, Value.category]; done) | rfl
set_option maxRecDepth 65536 in
set_option maxHeartbeats 40000000 in
theorem rm_ncap_23_16 {l : Launch} {Z : State} {a0 : Array Value} {A : Nat → Addr} {KC : Nat → Cell} {IC : Nat → Int32} {VC : Nat → Value} (hw : ∀ d ∈ tables_1, d.before a0 Z = true) (G : own_Ctx Z A KC IC VC) (ob : Addr) (va : Addr) (kv : ClassId) (bs : List Int32) (h0 : Heap) (O0 : Ext Z.heap h0) (prem0 : Exa Z h0 ob "java/lang/StringBuilder") (prem1 : Fld Z h0 ob "java/lang/AbstractStringBuilder" "value" "[B" (.ref va)) (prem2 : Fld Z h0 ob "java/lang/AbstractStringBuilder" "coder" "B" (.int (0 : Int32))) (prem3 : Arv Z h0 va kv .byte (16 : Int32) (bs.map Value.int) (.int (0 : Int32))) :
    Ok l Z own_m43 jdk_68_method_10_code 6 (some .int) ({ frames := 2, cells := 0, slots := 0, locals := 29 } : Room) #[(.ref ob), (.int (23 : Int32))] h0
      (fun v h L => v = some (.int (34 : Int32)) ∧ (h = h0) ∧ (L = [])) := by
  refine Ok.mk pn44 ?_
  intro p e s m below meth c T0 hx hby hml hown hnm hret hlk hZ e0 X0
  refine Go.cast (ef_rm_ncap_23_16 m ob) ?_
  have D := @hb _ _ hby
  have N0 := Fr.nil Z.heap.size
  have K0 : Keep h0 h0 [] := Keep.refl _ _
  obtain ⟨T573, X573, e573, st573⟩ := getF X0 hx hZ hown (host := "") (Or.inl (own_w hw (i := 32) rfl)) Via.refl e0 prem1 (g := (mkF m 1 #[rv ob, iv 23, .unset, .unset, .unset, .unset] [(.ref ob)])) rfl rfl (D d15_1)
  obtain ⟨cl574, Ar574, qk574, S574, Ng574, H574, G574⟩ := id prem3
  obtain ⟨T575, X575, e575, st575⟩ := getF X573 hx hZ hown (host := "") (Or.inl (own_w hw (i := 34) rfl)) Via.refl e573 prem2 (g := (mkF m 8 #[rv ob, iv 23, iv 16, .unset, .unset, .unset] [(.ref ob), (.int 23)])) rfl rfl (D d15_8)
  obtain ⟨T576, X576, e576, st576⟩ := getF X575 hx hZ hown (host := "") (Or.inl (own_w hw (i := 34) rfl)) Via.refl e575 prem2 (g := (mkF m 24 #[rv ob, iv 23, iv 16, iv 23, iv 7, .unset] [(.ref ob), (.int 2), (.int 16), (.int 7), (.int 16)])) rfl rfl (D d15_24)
  obtain ⟨T577, v577, L577, X577, q577, st577⟩ := callSt X576 hx hZ (y := own_m40) hown (own_w hw (i := 110) rfl) (own_w hw (i := 111) rfl) (own_w hw (i := 112) rfl) (own_w hw (i := 113) rfl) (by decide) (rm_nlen_16_7_18 hw G   h0 O0 ) e576 (W := 0) (by decide) (by decide) (by decide) (by decide) (g := (mkF m 29 #[rv ob, iv 23, iv 16, iv 23, iv 7, .unset] [(.int 18), (.int 7), (.int 16)])) rfl (by rw [hml]; rfl) (argsL := [(.int 16), (.int 7), (.int 18)]) (rest := []) (lenOf pd42 rfl) rfl rfl (Nat.le_of_eq rfl) (D d15_29)
  obtain ⟨rfl, e577, rfl⟩ := q577
  have N577 := Fr.app N0 (Fr.nil _)
  refine Go.of (T' := T577) (f' := (mkF m 36 #[rv ob, iv 23, iv 16, iv 23, iv 7, iv 34] [(.int 34)])) (fun _ k => XS.aloadN X0.here hx rfl (D d15_0) rfl rfl (st573 _ (X573.arraylength hx (by rw [e573]; exact Ar574.1) (State.isArrayOf_alike hZ.alike Ar574.2.1) (g := (mkF m 4 #[rv ob, iv 23, .unset, .unset, .unset, .unset] [(.ref va)])) rfl rfl (D d15_4) _ (by rw [len_of S574 Ng574]; exact (XS.istoreN X573.here hx rfl (D d15_5) rfl (l' := #[rv ob, iv 23, iv 16, .unset, .unset, .unset]) rfl (XS.iloadN X573.here hx rfl (D d15_6) rfl (XS.aloadN X573.here hx rfl (D d15_7) rfl rfl (st575 _ (XS.ishl X575.here hx rfl (D d15_11) rfl (XS.istoreN X575.here hx rfl (D d15_12) rfl (l' := #[rv ob, iv 23, iv 16, iv 23, .unset, .unset]) rfl (XS.iloadN X575.here hx rfl (D d15_13) rfl (XS.iloadN X575.here hx rfl (D d15_14) rfl (XS.isub X575.here hx rfl (D d15_15) rfl (XS.istore X575.here hx rfl (D d15_16) rfl (l' := #[rv ob, iv 23, iv 16, iv 23, iv 7, .unset]) rfl (XS.iloadN X575.here hx rfl (D d15_18) rfl (XS.iload X575.here hx rfl (D d15_19) rfl (XS.iloadN X575.here hx rfl (D d15_21) rfl (XS.iconst X575.here hx rfl (D d15_22) (XS.aloadN X575.here hx rfl (D d15_23) rfl rfl (st576 _ (XS.ishl X576.here hx rfl (D d15_27) rfl (XS.iadd X576.here hx rfl (D d15_28) rfl (st577 _ (XS.istore X577.here hx rfl (D d15_32) rfl (l' := #[rv ob, iv 23, iv 16, iv 23, iv 7, iv 34]) rfl (XS.iload X577.here hx rfl (D d15_34) rfl k))))))))))))))))))))))))) ?_
  obtain ⟨T579, X579, e579, st579⟩ := getF X577 hx hZ hown (host := "") (Or.inl (own_w hw (i := 34) rfl)) Via.refl e577 prem2 (g := (mkF m 54 #[rv ob, iv 23, iv 16, iv 23, iv 7, iv 34] [(.ref ob), (.int 34)])) rfl rfl (D d15_54)
  refine Go.of (T' := T579) (f' := (mkF m 58 #[rv ob, iv 23, iv 16, iv 23, iv 7, iv 34] [(.int 34)])) (fun _ k => X577.ldcInt hx hown (mvT hZ (own_w hw (i := 119) rfl)) (g := (mkF m 36 #[rv ob, iv 23, iv 16, iv 23, iv 7, iv 34] [(.int 34)])) rfl (D d15_36) _ (XS.icmpYes X577.here hx rfl (pc0 := 38) (pc' := 51) rfl (D d15_38) rfl (feq (by decide : ¬ ((34 : Int32) = (2147483647 : Int32)))).2 (by decide) (by decide) (XS.iload X577.here hx rfl (D d15_51) rfl (XS.aloadN X577.here hx rfl (D d15_53) rfl rfl (st579 _ (XS.ishr X579.here hx rfl (D d15_57) rfl k)))))) ?_
  exact Go.retI X579 hx hlk hret (D d15_58) (by decide) (by decide) (by rw [e579]; exact ⟨rfl, rfl, by simp⟩)
theorem ef_rm_cof_14_16_34 (m : MethodId) (va : Addr) : entryFrame m #[(.ref va), (.int (34 : Int32))] 3 = mkF m 0 #[rv va, iv (34 : Int32), .unset] [] := by first | (simp [entryFrame, mkF, argsToLocals, Value.category]; done) | rfl
set_option maxRecDepth 65536 in
set_option maxHeartbeats 40000000 in
theorem rm_cof_14_16_34 {l : Launch} {Z : State} {a0 : Array Value} {A : Nat → Addr} {KC : Nat → Cell} {IC : Nat → Int32} {VC : Nat → Value} (hw : ∀ d ∈ tables_1, d.before a0 Z = true) (G : own_Ctx Z A KC IC VC) (va : Addr) (kv : ClassId) (bs : List Int32) (h0 : Heap) (O0 : Ext Z.heap h0) (prem0 : bs.length = 14) (prem1 : Arv Z h0 va kv .byte (16 : Int32) (bs.map Value.int) (.int (0 : Int32))) :
    Ok l Z own_m46 jdk_65_method_121_code 3 (some (.array .byte)) ({ frames := 1, cells := 1, slots := 34, locals := 18 } : Room) #[(.ref va), (.int (34 : Int32))] h0
      (fun v h L => ∃ vb : Addr, ∃ kb : ClassId, v = some (.ref vb) ∧ (Fr Z.heap.size L) ∧ (Keep h0 h []) ∧ (h0.size ≤ vb) ∧ (Arv Z h vb kb .byte (34 : Int32) (bs.map Value.int) (.int (0 : Int32))) ∧ (Exa Z h vb "[B")) := by
  refine Ok.mk pn47 ?_
  intro p e s m below meth c T0 hx hby hml hown hnm hret hlk hZ e0 X0
  refine Go.cast (ef_rm_cof_14_16_34 m va) ?_
  have D := @hb _ _ hby
  have N0 := Fr.nil Z.heap.size
  have K0 : Keep h0 h0 [] := Keep.refl _ _
  obtain ⟨cl580, Ar580, qk580, S580, Ng580, H580, G580⟩ := id prem1
  obtain ⟨T582, h582, k582, b582, q582, X582, e582, E582, V582, A582, st582⟩ := newAr X0 hx hZ (own_w hw (i := 6) rfl) e0 (g := (mkF m 15 #[rv va, iv 34, .unset] [(.int 34)])) rfl (D d18_15) rfl (by decide) (cap := 34) (by decide) (by decide) (by decide) (by decide) (ad := "[B") (by decide)
  have O583 := Old0.ext O0 E582
  have K583 := Keep.ext K0 E582
  have g_b582 : Z.heap.size ≤ b582 := q582 ▸ O0.1
  have z_b582 : h0.size ≤ b582 := q582 ▸ K0.1
  have ne_va_b582 : va ≠ b582 := q582 ▸ Nat.ne_of_lt prem1.lt
  have f584 : Arv Z h582 b582 k582 .byte (34 : Int32) [(.int 0), (.int 0), (.int 0), (.int 0), (.int 0), (.int 0), (.int 0), (.int 0), (.int 0), (.int 0), (.int 0), (.int 0), (.int 0), (.int 0), (.int 0), (.int 0), (.int 0), (.int 0), (.int 0), (.int 0), (.int 0), (.int 0), (.int 0), (.int 0), (.int 0), (.int 0), (.int 0), (.int 0), (.int 0), (.int 0), (.int 0), (.int 0), (.int 0), (.int 0)] (.int 0) := Arv.pad V582 (pad_rep [] (.int 0) 34)
  have fz585 : Arv Z h582 b582 k582 .byte (34 : Int32) (([] : List Int32).map Value.int) (.int 0) := Arv.pad f584 (fun i => (pad_rep [] (.int 0) 34 i).symm)
  have f587 : Arv Z h582 va kv .byte (16 : Int32) (bs.map Value.int) (.int 0) := (Arv.ext prem1 E582)
  obtain ⟨cl586, Ar586, qk586, S586, Ng586, H586, G586⟩ := id f587
  obtain ⟨T588, v588, L588, X588, q588, st588⟩ := callSt X582 hx hZ (y := own_m45) hown (own_w hw (i := 124) rfl) (own_w hw (i := 125) rfl) (own_w hw (i := 116) rfl) (own_w hw (i := 126) rfl) (by decide) (rm_min_16_34 hw G   h582 O583 ) e582 (W := 4) (by decide) (by decide) (by decide) (by decide) (g := (mkF m 25 #[rv va, iv 34, rv b582] [(.int 34), (.int 16), (.int 0), (.ref b582), (.int 0), (.ref va)])) rfl (by rw [hml]; rfl) (argsL := [(.int 16), (.int 34)]) (rest := [(.int 0), (.ref b582), (.int 0), (.ref va)]) (lenOf pd39 rfl) rfl rfl (Nat.le_of_eq rfl) (D d18_25)
  obtain ⟨rfl, e588, rfl⟩ := q588
  have N588 := Fr.app N0 (Fr.nil _)
  obtain ⟨T589, h589, L589, X589, e589, N589, Kq589, V589, st589⟩ := own_cpG X588 hx hZ hown (own_w hw (i := 127) rfl) (own_w hw (i := 86) rfl) (own_w hw (i := 84) rfl) (own_w hw (i := 85) rfl) e588 f587 fz585 (dp := (0 : Int32)) (nn := (16 : Int32)) (by decide) (by decide) (by decide) (by rw [prem0]; decide) (by decide) (by decide) N588 g_b582 (g := (mkF m 28 #[rv va, iv 34, rv b582] [(.int 16), (.int 0), (.ref b582), (.int 0), (.ref va)])) rfl (by rw [hml]; rfl) rfl (D d18_28) (by decide) (W := 0) (Nat.le_of_eq rfl) (by decide)
  have O590 := Old0.keep O583 Kq589 (allS g_b582 all0)
  have K590 := Keep.trans K583 Kq589 (allS (Or.inr z_b582) all0)
  have f591 : Exa Z h589 b582 "[B" := (Exa.keep A582 Kq589)
  refine Go.of (T' := T589) (f' := (mkF m 32 #[rv va, iv 34, rv b582] [(.ref b582)])) (fun _ k => XS.iloadN X0.here hx rfl (D d18_0) rfl (XS.aloadN X0.here hx rfl (D d18_1) rfl rfl (X0.arraylength hx (by rw [e0]; exact Ar580.1) (State.isArrayOf_alike hZ.alike Ar580.2.1) (g := (mkF m 2 #[rv va, iv 34, .unset] [(.ref va), (.int 34)])) rfl rfl (D d18_2) _ (by rw [len_of S580 Ng580]; exact (XS.icmpYes X0.here hx rfl (pc0 := 3) (pc' := 14) rfl (D d18_3) rfl (feq (by decide : ¬ ((34 : Int32) = (16 : Int32)))).2 (by decide) (by decide) (XS.iloadN X0.here hx rfl (D d18_14) rfl (st582 _ (XS.astoreN X582.here hx rfl (D d18_17) rfl rfl (l' := #[rv va, iv 34, rv b582]) rfl (XS.aloadN X582.here hx rfl (D d18_18) rfl rfl (XS.iconst X582.here hx rfl (D d18_19) (XS.aloadN X582.here hx rfl (D d18_20) rfl rfl (XS.iconst X582.here hx rfl (D d18_21) (XS.aloadN X582.here hx rfl (D d18_22) rfl rfl (X582.arraylength hx (by rw [e582]; exact Ar586.1) (State.isArrayOf_alike hZ.alike Ar586.2.1) (g := (mkF m 23 #[rv va, iv 34, rv b582] [(.ref va), (.int 0), (.ref b582), (.int 0), (.ref va)])) rfl rfl (D d18_23) _ (by rw [len_of S586 Ng586]; exact (XS.iloadN X582.here hx rfl (D d18_24) rfl (st588 _ (st589 _ (XS.aloadN X589.here hx rfl (D d18_31) rfl rfl k))))))))))))))))))) ?_
  exact Go.retA X589 hx hlk hret rfl rfl (D d18_32) (by decide) (by decide) (by rw [e589]; exact ⟨b582, k582, rfl, N589, K590, z_b582, V589, f591⟩)
theorem ef_rm_ecg_14_23_16 (m : MethodId) (ob : Addr) : entryFrame m #[(.ref ob), (.int (23 : Int32))] 3 = mkF m 0 #[rv ob, iv (23 : Int32), .unset] [] := by first | (simp [entryFrame, mkF, argsToLocals, Value.category]; done) | rfl
set_option maxRecDepth 65536 in
set_option maxHeartbeats 40000000 in
theorem rm_ecg_14_23_16 {l : Launch} {Z : State} {a0 : Array Value} {A : Nat → Addr} {KC : Nat → Cell} {IC : Nat → Int32} {VC : Nat → Value} (hw : ∀ d ∈ tables_1, d.before a0 Z = true) (G : own_Ctx Z A KC IC VC) (ob : Addr) (va : Addr) (kv : ClassId) (bs : List Int32) (h0 : Heap) (O0 : Ext Z.heap h0) (prem0 : bs.length = 14) (prem1 : Exa Z h0 ob "java/lang/StringBuilder") (prem2 : Fld Z h0 ob "java/lang/AbstractStringBuilder" "value" "[B" (.ref va)) (prem3 : Fld Z h0 ob "java/lang/AbstractStringBuilder" "coder" "B" (.int (0 : Int32))) (prem4 : Arv Z h0 va kv .byte (16 : Int32) (bs.map Value.int) (.int (0 : Int32))) (prem5 : Z.heap.size ≤ ob) (prem6 : Fld Z h0 ob "java/lang/AbstractStringBuilder" "count" "I" (.int (14 : Int32))) :
    Ok l Z own_m23 jdk_68_method_9_code 3 none ({ frames := 3, cells := 1, slots := 34, locals := 48 } : Room) #[(.ref ob), (.int (23 : Int32))] h0
      (fun v h L => ∃ vb : Addr, ∃ kb : ClassId, v = none ∧ (Fr Z.heap.size L) ∧ (Keep h0 h [ob]) ∧ (h0.size ≤ vb) ∧ (Fld Z h ob "java/lang/AbstractStringBuilder" "value" "[B" (.ref vb)) ∧ (Fld Z h ob "java/lang/AbstractStringBuilder" "coder" "B" (.int (0 : Int32))) ∧ (Fld Z h ob "java/lang/AbstractStringBuilder" "count" "I" (.int (14 : Int32))) ∧ (Arv Z h vb kb .byte (34 : Int32) (bs.map Value.int) (.int (0 : Int32)))) := by
  refine Ok.mk pn24 ?_
  intro p e s m below meth c T0 hx hby hml hown hnm hret hlk hZ e0 X0
  refine Go.cast (ef_rm_ecg_14_23_16 m ob) ?_
  have D := @hb _ _ hby
  have N0 := Fr.nil Z.heap.size
  have K0 : Keep h0 h0 [ob] := Keep.refl _ _
  obtain ⟨T592, X592, e592, st592⟩ := getF X0 hx hZ hown (host := "") (Or.inl (own_w hw (i := 32) rfl)) Via.refl e0 prem2 (g := (mkF m 1 #[rv ob, iv 23, .unset] [(.ref ob)])) rfl rfl (D d8_1)
  obtain ⟨cl593, Ar593, qk593, S593, Ng593, H593, G593⟩ := id prem4
  obtain ⟨T594, X594, e594, st594⟩ := getF X592 hx hZ hown (host := "") (Or.inl (own_w hw (i := 34) rfl)) Via.refl e592 prem3 (g := (mkF m 6 #[rv ob, iv 23, .unset] [(.ref ob), (.int 16)])) rfl rfl (D d8_6)
  obtain ⟨T596, X596, e596, st596⟩ := getF X594 hx hZ hown (host := "") (Or.inl (own_w hw (i := 32) rfl)) Via.refl e594 prem2 (g := (mkF m 19 #[rv ob, iv 23, iv 16] [(.ref ob), (.ref ob)])) rfl rfl (D d8_19)
  obtain ⟨T597, v597, L597, X597, q597, st597⟩ := callPr X596 hx hZ (y := own_m43) hown (own_w hw (i := 105) rfl) (own_w hw (i := 106) rfl) (own_selfsel (own_w hw (i := 106) rfl) (own_w hw (i := 108) rfl) (own_w hw (i := 107) rfl) (by decide)) (own_w hw (i := 107) rfl) (own_w hw (i := 26) rfl) (own_w hw (i := 109) rfl) (by decide) (rm_ncap_23_16 hw G ob va kv bs h0 O0 prem1 prem2 prem3 prem4) e596 (W := 2) (by decide) (by decide) (by decide) (by decide) prem1 (g := (mkF m 24 #[rv ob, iv 23, iv 16] [(.int 23), (.ref ob), (.ref va), (.ref ob)])) rfl (by rw [hml]; rfl) (a := ob) (argsL := [(.int 23)]) (rest := [(.ref va), (.ref ob)]) (lenOf pd48 rfl) rfl rfl (Nat.le_of_eq rfl) (D d8_24)
  obtain ⟨rfl, e597, rfl⟩ := q597
  have N597 := Fr.app N0 (Fr.nil _)
  obtain ⟨T598, X598, e598, st598⟩ := getF X597 hx hZ hown (host := "") (Or.inl (own_w hw (i := 34) rfl)) Via.refl e597 prem3 (g := (mkF m 28 #[rv ob, iv 23, iv 16] [(.ref ob), (.int 34), (.ref va), (.ref ob)])) rfl rfl (D d8_28)
  obtain ⟨T599, v599, L599, X599, q599, st599⟩ := callSt X598 hx hZ (y := own_m46) hown (own_w hw (i := 120) rfl) (own_w hw (i := 121) rfl) (own_w hw (i := 122) rfl) (own_w hw (i := 123) rfl) (by decide) (rm_cof_14_16_34 hw G va kv bs h0 O0 (prem0) prem4) e598 (W := 1) (by decide) (by decide) (by decide) (by decide) (g := (mkF m 32 #[rv ob, iv 23, iv 16] [(.int 34), (.ref va), (.ref ob)])) rfl (by rw [hml]; rfl) (argsL := [(.ref va), (.int 34)]) (rest := [(.ref ob)]) (lenOf pd49 rfl) rfl rfl (Nat.le_of_eq rfl) (D d8_32)
  obtain ⟨vb_599, kb_599, rfl, N599q, K599q, p599_0, p599_1, p599_2⟩ := q599
  have N599 := Fr.app N597 N599q
  have O600 := Old0.keep O0 K599q all0
  have K600 := Keep.trans K0 K599q all0
  have z_vb_599 : h0.size ≤ vb_599 := Nat.le_trans K0.1 p599_0
  have g_vb_599 : Z.heap.size ≤ vb_599 := Nat.le_trans O0.1 p599_0
  have ne_ob_vb_599 : ob ≠ vb_599 := Nat.ne_of_lt (Nat.lt_of_lt_of_le prem1.lt p599_0)
  have ne_va_vb_599 : va ≠ vb_599 := Nat.ne_of_lt (Nat.lt_of_lt_of_le prem4.lt p599_0)
  have f602 : Exa Z T599.heap ob "java/lang/StringBuilder" := (Exa.keep prem1 K599q)
  have f603 : Fld Z T599.heap ob "java/lang/AbstractStringBuilder" "value" "[B" (.ref va) := (Fld.keep prem2 K599q nin0)
  obtain ⟨T601, h601, X601, e601, W601, st601⟩ := putF X599 hx hZ hown (host := "") (Or.inl (own_w hw (i := 32) rfl)) Via.refl rfl f603 f602 (Or.inl (own_w hw (i := 33) rfl)) (own_w hw (i := 17) rfl) (ty := (.array .byte)) (by decide) rfl rfl (g := (mkF m 35 #[rv ob, iv 23, iv 16] [(.ref vb_599), (.ref ob)])) rfl rfl (D d8_35)
  have O604 := Old0.wr O600 W601 prem5
  have K604 := Keep.wr K600 W601 (Or.inl (List.mem_of_getElem? (i := 0) rfl))
  have N601 := Fr.snoc X601 N599 prem5
  have f601 : Fld Z h601 ob "java/lang/AbstractStringBuilder" "value" "[B" (.ref vb_599) := Fld.same W601 f603
  have f605 : Fld Z h601 ob "java/lang/AbstractStringBuilder" "coder" "B" (.int 0) := (Fld.other W601 (Fld.keep prem3 K599q nin0) (Or.inr (slot_ne (Or.inl (own_w hw (i := 35) rfl)) (Or.inl (own_w hw (i := 33) rfl)) (by decide) (t := .byte) (t' := (.array .byte)) (by decide) (by decide))))
  have f606 : Fld Z h601 ob "java/lang/AbstractStringBuilder" "count" "I" (.int 14) := (Fld.other W601 (Fld.keep prem6 K599q nin0) (Or.inr (slot_ne (Or.inl (own_w hw (i := 61) rfl)) (Or.inl (own_w hw (i := 33) rfl)) (by decide) (t := .int) (t' := (.array .byte)) (by decide) (by decide))))
  have f607 : Arv Z h601 vb_599 kb_599 .byte (34 : Int32) (bs.map Value.int) (.int 0) := (Arv.other p599_1 W601 (Ne.symm ne_ob_vb_599))
  refine Go.of (T' := T601) (f' := (mkF m 38 #[rv ob, iv 23, iv 16] [])) (fun _ k => XS.aloadN X0.here hx rfl (D d8_0) rfl rfl (st592 _ (X592.arraylength hx (by rw [e592]; exact Ar593.1) (State.isArrayOf_alike hZ.alike Ar593.2.1) (g := (mkF m 4 #[rv ob, iv 23, .unset] [(.ref va)])) rfl rfl (D d8_4) _ (by rw [len_of S593 Ng593]; exact (XS.aloadN X592.here hx rfl (D d8_5) rfl rfl (st594 _ (XS.ishr X594.here hx rfl (D d8_9) rfl (XS.istoreN X594.here hx rfl (D d8_10) rfl (l' := #[rv ob, iv 23, iv 16]) rfl (XS.iloadN X594.here hx rfl (D d8_11) rfl (XS.iloadN X594.here hx rfl (D d8_12) rfl (XS.isub X594.here hx rfl (D d8_13) rfl (XS.ifNo X594.here hx rfl (D d8_14) rfl ((if0 _ _).trans (tlt (by decide : (0 : Int32) < (7 : Int32))).2.2.2) (XS.aloadN X594.here hx rfl (D d8_17) rfl rfl (XS.aloadN X594.here hx rfl (D d8_18) rfl rfl (st596 _ (XS.aloadN X596.here hx rfl (D d8_22) rfl rfl (XS.iloadN X596.here hx rfl (D d8_23) rfl (st597 _ (XS.aloadN X597.here hx rfl (D d8_27) rfl rfl (st598 _ (XS.ishl X598.here hx rfl (D d8_31) rfl (st599 _ (st601 _ k))))))))))))))))))))))) ?_
  exact Go.retV X601 hx hlk hret (D d8_38) (by decide) (by decide) (by rw [e601]; exact ⟨vb_599, kb_599, rfl, N601, K604, z_vb_599, f601, f605, f606, f607⟩)
theorem ef_rm_getb_14_9_34 (m : MethodId) (so : Addr) (va : Addr) : entryFrame m #[(.ref so), (.ref va), (.int (14 : Int32)), (.int (0 : Int32))] 4 = mkF m 0 #[rv so, rv va, iv (14 : Int32), iv (0 : Int32)] [] := by first | (simp [entryFrame, mkF, argsToLocals, Value.category]; done) | rfl
set_option maxRecDepth 65536 in
set_option maxHeartbeats 40000000 in
theorem rm_getb_14_9_34 {l : Launch} {Z : State} {a0 : Array Value} {A : Nat → Addr} {KC : Nat → Cell} {IC : Nat → Int32} {VC : Nat → Value} (hw : ∀ d ∈ tables_1, d.before a0 Z = true) (G : own_Ctx Z A KC IC VC) (so : Addr) (va : Addr) (sv : Addr) (ks : ClassId) (ts : List Int32) (kv : ClassId) (bs : List Int32) (h0 : Heap) (O0 : Ext Z.heap h0) (prem0 : bs.length = 14) (prem1 : ts.length = 9) (prem2 : Exa Z h0 so "java/lang/String") (prem3 : Fld Z h0 so "java/lang/String" "value" "[B" (.ref sv)) (prem4 : Fld Z h0 so "java/lang/String" "coder" "B" (.int (0 : Int32))) (prem5 : Arv Z h0 sv ks .byte (9 : Int32) (ts.map Value.int) (.int (0 : Int32))) (prem6 : Arv Z h0 va kv .byte (34 : Int32) (bs.map Value.int) (.int (0 : Int32))) (prem7 : Z.heap.size ≤ va) :
    Ok l Z own_m25 jdk_42_method_147_code 4 none ({ frames := 1, cells := 0, slots := 0, locals := 18 } : Room) #[(.ref so), (.ref va), (.int (14 : Int32)), (.int (0 : Int32))] h0
      (fun v h L => v = none ∧ (Fr Z.heap.size L) ∧ (Keep h0 h [va]) ∧ (Arv Z h va kv .byte (34 : Int32) ((bs ++ ts).map Value.int) (.int (0 : Int32)))) := by
  refine Ok.mk pn26 ?_
  intro p e s m below meth c T0 hx hby hml hown hnm hret hlk hZ e0 X0
  refine Go.cast (ef_rm_getb_14_9_34 m so va) ?_
  have D := @hb _ _ hby
  have N0 := Fr.nil Z.heap.size
  have K0 : Keep h0 h0 [va] := Keep.refl _ _
  obtain ⟨T608, v608, L608, X608, q608, st608⟩ := callVi X0 hx hZ (y := own_m5) (z := own_m5) hown (own_w hw (i := 53) rfl) (own_w hw (i := 54) rfl) (notFace_of_selects (args := #[]) (mvT hZ (own_w hw (i := 56) rfl))) (own_w hw (i := 56) rfl) (own_w hw (i := 55) rfl) (own_w hw (i := 57) rfl) (own_w hw (i := 4) rfl) (by decide) (rm_coder hw G so  h0 O0 prem4) e0 (W := 0) (by decide) (by decide) (by decide) (by decide) prem2 (g := (mkF m 1 #[rv so, rv va, iv 14, iv 0] [(.ref so)])) rfl (by rw [hml]; rfl) (argsL := []) (rest := []) (lenOf pd7 rfl) rfl rfl (Nat.le_of_eq rfl) (D d11_1)
  obtain ⟨rfl, e608, rfl⟩ := q608
  have N608 := Fr.app N0 (Fr.nil _)
  obtain ⟨T610, X610, e610, st610⟩ := getF X608 hx hZ hown (host := "") (Or.inl (own_w hw (i := 52) rfl)) Via.refl e608 prem3 (g := (mkF m 9 #[rv so, rv va, iv 14, iv 0] [(.ref so)])) rfl rfl (D d11_9)
  obtain ⟨T611, X611, e611, st611⟩ := getF X610 hx hZ hown (host := "") (Or.inl (own_w hw (i := 52) rfl)) Via.refl e610 prem3 (g := (mkF m 18 #[rv so, rv va, iv 14, iv 0] [(.ref so), (.int 14), (.ref va), (.int 0), (.ref sv)])) rfl rfl (D d11_18)
  obtain ⟨cl612, Ar612, qk612, S612, Ng612, H612, G612⟩ := id prem5
  obtain ⟨T613, h613, L613, X613, e613, N613, Kq613, V613, st613⟩ := own_cpG X611 hx hZ hown (own_w hw (i := 83) rfl) (own_w hw (i := 86) rfl) (own_w hw (i := 84) rfl) (own_w hw (i := 85) rfl) e611 prem5 prem6 (dp := (14 : Int32)) (nn := (9 : Int32)) (by rw [prem0]; decide) (by decide) (by decide) (by rw [prem1]; decide) (by decide) (by decide) N608 prem7 (g := (mkF m 22 #[rv so, rv va, iv 14, iv 0] [(.int 9), (.int 14), (.ref va), (.int 0), (.ref sv)])) rfl (by rw [hml]; rfl) rfl (D d11_22) (by decide) (W := 0) (Nat.le_of_eq rfl) (by decide)
  have O614 := Old0.keep O0 Kq613 (allS prem7 all0)
  have K614 := Keep.trans K0 Kq613 (allS (Or.inl (List.mem_of_getElem? (i := 0) rfl)) all0)
  refine Go.of (T' := T613) (f' := (mkF m 43 #[rv so, rv va, iv 14, iv 0] [])) (fun _ k => XS.aloadN X0.here hx rfl (D d11_0) rfl rfl (st608 _ (XS.iloadN X608.here hx rfl (D d11_4) rfl (XS.icmpNo X608.here hx rfl (D d11_5) rfl (teq (by decide : (0 : Int32) = (0 : Int32))).2 (XS.aloadN X608.here hx rfl (D d11_8) rfl rfl (st610 _ (XS.iconst X610.here hx rfl (D d11_12) (XS.aloadN X610.here hx rfl (D d11_13) rfl rfl (XS.iloadN X610.here hx rfl (D d11_14) rfl (XS.iloadN X610.here hx rfl (D d11_15) rfl (XS.ishl X610.here hx rfl (D d11_16) rfl (XS.aloadN X610.here hx rfl (D d11_17) rfl rfl (st611 _ (X611.arraylength hx (by rw [e611]; exact Ar612.1) (State.isArrayOf_alike hZ.alike Ar612.2.1) (g := (mkF m 21 #[rv so, rv va, iv 14, iv 0] [(.ref sv), (.int 14), (.ref va), (.int 0), (.ref sv)])) rfl rfl (D d11_21) _ (by rw [len_of S612 Ng612]; exact (st613 _ (XS.goto X613.here hx rfl (pc0 := 25) (pc' := 43) rfl (D d11_25) (by decide) (by decide) k))))))))))))))))) ?_
  exact Go.retV X613 hx hlk hret (D d11_43) (by decide) (by decide) (by rw [e613]; exact ⟨rfl, N613, K614, V613⟩)
theorem ef_rm_put_14_9_34 (m : MethodId) (ob : Addr) (so : Addr) : entryFrame m #[(.ref ob), (.int (14 : Int32)), (.ref so)] 3 = mkF m 0 #[rv ob, iv (14 : Int32), rv so] [] := by first | (simp [entryFrame, mkF, argsToLocals, Value.category]; done) | rfl
set_option maxRecDepth 65536 in
set_option maxHeartbeats 40000000 in
theorem rm_put_14_9_34 {l : Launch} {Z : State} {a0 : Array Value} {A : Nat → Addr} {KC : Nat → Cell} {IC : Nat → Int32} {VC : Nat → Value} (hw : ∀ d ∈ tables_1, d.before a0 Z = true) (G : own_Ctx Z A KC IC VC) (ob : Addr) (so : Addr) (sv : Addr) (ks : ClassId) (ts : List Int32) (va : Addr) (kv : ClassId) (bs : List Int32) (h0 : Heap) (O0 : Ext Z.heap h0) (prem0 : bs.length = 14) (prem1 : ts.length = 9) (prem2 : Exa Z h0 ob "java/lang/StringBuilder") (prem3 : Fld Z h0 ob "java/lang/AbstractStringBuilder" "value" "[B" (.ref va)) (prem4 : Fld Z h0 ob "java/lang/AbstractStringBuilder" "coder" "B" (.int (0 : Int32))) (prem5 : Exa Z h0 so "java/lang/String") (prem6 : Fld Z h0 so "java/lang/String" "value" "[B" (.ref sv)) (prem7 : Fld Z h0 so "java/lang/String" "coder" "B" (.int (0 : Int32))) (prem8 : Arv Z h0 sv ks .byte (9 : Int32) (ts.map Value.int) (.int (0 : Int32))) (prem9 : Arv Z h0 va kv .byte (34 : Int32) (bs.map Value.int) (.int (0 : Int32))) (prem10 : Z.heap.size ≤ va) :
    Ok l Z own_m29 jdk_68_method_73_code 3 none ({ frames := 2, cells := 0, slots := 0, locals := 33 } : Room) #[(.ref ob), (.int (14 : Int32)), (.ref so)] h0
      (fun v h L => v = none ∧ (Fr Z.heap.size L) ∧ (Keep h0 h [va]) ∧ (Arv Z h va kv .byte (34 : Int32) ((bs ++ ts).map Value.int) (.int (0 : Int32)))) := by
  refine Ok.mk pn30 ?_
  intro p e s m below meth c T0 hx hby hml hown hnm hret hlk hZ e0 X0
  refine Go.cast (ef_rm_put_14_9_34 m ob so) ?_
  have D := @hb _ _ hby
  have N0 := Fr.nil Z.heap.size
  have K0 : Keep h0 h0 [va] := Keep.refl _ _
  obtain ⟨T615, v615, L615, X615, q615, st615⟩ := callPr X0 hx hZ (y := own_m10) hown (own_w hw (i := 72) rfl) (own_w hw (i := 73) rfl) (own_selfsel (own_w hw (i := 73) rfl) (own_w hw (i := 75) rfl) (own_w hw (i := 74) rfl) (by decide)) (own_w hw (i := 74) rfl) (own_w hw (i := 26) rfl) (own_w hw (i := 76) rfl) (by decide) (rm_infl hw G ob so  h0 O0 prem4 prem5 prem7) e0 (W := 0) (by decide) (by decide) (by decide) (by decide) prem2 (g := (mkF m 2 #[rv ob, iv 14, rv so] [(.ref so), (.ref ob)])) rfl (by rw [hml]; rfl) (a := ob) (argsL := [(.ref so)]) (rest := []) (lenOf pd27 rfl) rfl rfl (Nat.le_of_eq rfl) (D d9_2)
  obtain ⟨rfl, e615, rfl⟩ := q615
  have N615 := Fr.app N0 (Fr.nil _)
  obtain ⟨T616, X616, e616, st616⟩ := getF X615 hx hZ hown (host := "") (Or.inl (own_w hw (i := 32) rfl)) Via.refl e615 prem3 (g := (mkF m 7 #[rv ob, iv 14, rv so] [(.ref ob), (.ref so)])) rfl rfl (D d9_7)
  obtain ⟨T617, X617, e617, st617⟩ := getF X616 hx hZ hown (host := "") (Or.inl (own_w hw (i := 34) rfl)) Via.refl e616 prem4 (g := (mkF m 12 #[rv ob, iv 14, rv so] [(.ref ob), (.int 14), (.ref va), (.ref so)])) rfl rfl (D d9_12)
  obtain ⟨T618, v618, L618, X618, q618, st618⟩ := callVi X617 hx hZ (y := own_m25) (z := own_m25) hown (own_w hw (i := 78) rfl) (own_w hw (i := 79) rfl) (notFace_of_selects (args := #[]) (mvT hZ (own_w hw (i := 81) rfl))) (own_w hw (i := 81) rfl) (own_w hw (i := 80) rfl) (own_w hw (i := 82) rfl) (own_w hw (i := 4) rfl) (by decide) (rm_getb_14_9_34 hw G so va sv ks ts kv bs h0 O0 (prem0) (prem1) prem5 prem6 prem7 prem8 prem9 prem10) e617 (W := 0) (by decide) (by decide) (by decide) (by decide) prem5 (g := (mkF m 15 #[rv ob, iv 14, rv so] [(.int 0), (.int 14), (.ref va), (.ref so)])) rfl (by rw [hml]; rfl) (argsL := [(.ref va), (.int 14), (.int 0)]) (rest := []) (lenOf pd28 rfl) rfl rfl (Nat.le_of_eq rfl) (D d9_15)
  obtain ⟨rfl, N618q, K618q, p618_0⟩ := q618
  have N618 := Fr.app N615 N618q
  have O619 := Old0.keep O0 K618q (allS prem10 all0)
  have K619 := Keep.trans K0 K618q (allS (Or.inl (List.mem_of_getElem? (i := 0) rfl)) all0)
  refine Go.of (T' := T618) (f' := (mkF m 18 #[rv ob, iv 14, rv so] [])) (fun _ k => XS.aloadN X0.here hx rfl (D d9_0) rfl rfl (XS.aloadN X0.here hx rfl (D d9_1) rfl rfl (st615 _ (XS.aloadN X615.here hx rfl (D d9_5) rfl rfl (XS.aloadN X615.here hx rfl (D d9_6) rfl rfl (st616 _ (XS.iloadN X616.here hx rfl (D d9_10) rfl (XS.aloadN X616.here hx rfl (D d9_11) rfl rfl (st617 _ (st618 _ k)))))))))) ?_
  exact Go.retV X618 hx hlk hret (D d9_18) (by decide) (by decide) ⟨rfl, N618, K619, p618_0⟩
theorem ef_rm_aba_14_9_16 (m : MethodId) (ob : Addr) (so : Addr) : entryFrame m #[(.ref ob), (.ref so)] 3 = mkF m 0 #[rv ob, rv so, .unset] [] := by first | (simp [entryFrame, mkF, argsToLocals, Value.category]; done) | rfl
set_option maxRecDepth 65536 in
set_option maxHeartbeats 40000000 in
theorem rm_aba_14_9_16 {l : Launch} {Z : State} {a0 : Array Value} {A : Nat → Addr} {KC : Nat → Cell} {IC : Nat → Int32} {VC : Nat → Value} (hw : ∀ d ∈ tables_1, d.before a0 Z = true) (G : own_Ctx Z A KC IC VC) (ob : Addr) (so : Addr) (sv : Addr) (ks : ClassId) (ts : List Int32) (va : Addr) (kv : ClassId) (bs : List Int32) (h0 : Heap) (O0 : Ext Z.heap h0) (prem0 : bs.length = 14) (prem1 : ts.length = 9) (prem2 : Exa Z h0 ob "java/lang/StringBuilder") (prem3 : Fld Z h0 ob "java/lang/AbstractStringBuilder" "value" "[B" (.ref va)) (prem4 : Fld Z h0 ob "java/lang/AbstractStringBuilder" "coder" "B" (.int (0 : Int32))) (prem5 : Fld Z h0 ob "java/lang/AbstractStringBuilder" "count" "I" (.int (14 : Int32))) (prem6 : Exa Z h0 so "java/lang/String") (prem7 : Fld Z h0 so "java/lang/String" "value" "[B" (.ref sv)) (prem8 : Fld Z h0 so "java/lang/String" "coder" "B" (.int (0 : Int32))) (prem9 : Arv Z h0 sv ks .byte (9 : Int32) (ts.map Value.int) (.int (0 : Int32))) (prem10 : Arv Z h0 va kv .byte (16 : Int32) (bs.map Value.int) (.int (0 : Int32))) (prem11 : Z.heap.size ≤ ob) (prem12 : Z.heap.size ≤ va) (prem13 : ob ≠ va) (prem14 : so ≠ ob) (prem15 : sv ≠ ob) (prem16 : so ≠ va) (prem17 : sv ≠ va) :
    Ok l Z own_m33 jdk_68_method_22_code 3 (some (.object "java/lang/AbstractStringBuilder")) ({ frames := 4, cells := 1, slots := 34, locals := 62 } : Room) #[(.ref ob), (.ref so)] h0
      (fun v h L => ∃ vb : Addr, ∃ kb : ClassId, v = some (.ref ob) ∧ (Fr Z.heap.size L) ∧ (Keep h0 h [ob]) ∧ (h0.size ≤ vb) ∧ (Fld Z h ob "java/lang/AbstractStringBuilder" "value" "[B" (.ref vb)) ∧ (Fld Z h ob "java/lang/AbstractStringBuilder" "coder" "B" (.int (0 : Int32))) ∧ (Fld Z h ob "java/lang/AbstractStringBuilder" "count" "I" (.int (23 : Int32))) ∧ (Arv Z h vb kb .byte (34 : Int32) ((bs ++ ts).map Value.int) (.int (0 : Int32)))) := by
  refine Ok.mk pn34 ?_
  intro p e s m below meth c T0 hx hby hml hown hnm hret hlk hZ e0 X0
  refine Go.cast (ef_rm_aba_14_9_16 m ob so) ?_
  have D := @hb _ _ hby
  have N0 := Fr.nil Z.heap.size
  have K0 : Keep h0 h0 [ob] := Keep.refl _ _
  obtain ⟨T620, v620, L620, X620, q620, st620⟩ := callVi X0 hx hZ (y := own_m8) (z := own_m8) hown (own_w hw (i := 47) rfl) (own_w hw (i := 48) rfl) (notFace_of_selects (args := #[]) (mvT hZ (own_w hw (i := 50) rfl))) (own_w hw (i := 50) rfl) (own_w hw (i := 49) rfl) (own_w hw (i := 51) rfl) (own_w hw (i := 4) rfl) (by decide) (rm_len hw G so sv ks ((9 : Int32)) ts h0 O0 prem6 prem7 prem8 prem9 (by decide)) e0 (W := 0) (by decide) (by decide) (by decide) (by decide) prem6 (g := (mkF m 10 #[rv ob, rv so, .unset] [(.ref so)])) rfl (by rw [hml]; rfl) (argsL := []) (rest := []) (lenOf pd31 rfl) rfl rfl (Nat.le_of_eq rfl) (D d5_10)
  obtain ⟨rfl, e620, rfl⟩ := q620
  have N620 := Fr.app N0 (Fr.nil _)
  obtain ⟨T621, X621, e621, st621⟩ := getF X620 hx hZ hown (host := "") (Or.inl (own_w hw (i := 60) rfl)) Via.refl e620 prem5 (g := (mkF m 16 #[rv ob, rv so, iv 9] [(.ref ob), (.ref ob)])) rfl rfl (D d5_16)
  obtain ⟨T622, v622, L622, X622, q622, st622⟩ := callPr X621 hx hZ (y := own_m23) hown (own_w hw (i := 62) rfl) (own_w hw (i := 63) rfl) (own_selfsel (own_w hw (i := 63) rfl) (own_w hw (i := 65) rfl) (own_w hw (i := 64) rfl) (by decide)) (own_w hw (i := 64) rfl) (own_w hw (i := 26) rfl) (own_w hw (i := 66) rfl) (by decide) (rm_ecg_14_23_16 hw G ob va kv bs h0 O0 (prem0) prem2 prem3 prem4 prem10 prem11 prem5) e621 (W := 0) (by decide) (by decide) (by decide) (by decide) prem2 (g := (mkF m 21 #[rv ob, rv so, iv 9] [(.int 23), (.ref ob)])) rfl (by rw [hml]; rfl) (a := ob) (argsL := [(.int 23)]) (rest := []) (lenOf pd2 rfl) rfl rfl (Nat.le_of_eq rfl) (D d5_21)
  obtain ⟨vb_622, kb_622, rfl, N622q, K622q, p622_0, p622_1, p622_2, p622_3, p622_4⟩ := q622
  have N622 := Fr.app N620 N622q
  have O623 := Old0.keep O0 K622q (allS prem11 all0)
  have K623 := Keep.trans K0 K622q (allS (Or.inl (List.mem_of_getElem? (i := 0) rfl)) all0)
  have z_vb_622 : h0.size ≤ vb_622 := Nat.le_trans K0.1 p622_0
  have g_vb_622 : Z.heap.size ≤ vb_622 := Nat.le_trans O0.1 p622_0
  have ne_ob_vb_622 : ob ≠ vb_622 := Nat.ne_of_lt (Nat.lt_of_lt_of_le prem2.lt p622_0)
  have ne_so_vb_622 : so ≠ vb_622 := Nat.ne_of_lt (Nat.lt_of_lt_of_le prem6.lt p622_0)
  have ne_sv_vb_622 : sv ≠ vb_622 := Nat.ne_of_lt (Nat.lt_of_lt_of_le prem9.lt p622_0)
  have ne_va_vb_622 : va ≠ vb_622 := Nat.ne_of_lt (Nat.lt_of_lt_of_le prem10.lt p622_0)
  obtain ⟨T624, X624, e624, st624⟩ := getF X622 hx hZ hown (host := "") (Or.inl (own_w hw (i := 60) rfl)) Via.refl rfl p622_3 (g := (mkF m 26 #[rv ob, rv so, iv 9] [(.ref ob), (.ref ob)])) rfl rfl (D d5_26)
  have f626 : Exa Z T622.heap ob "java/lang/StringBuilder" := (Exa.keep prem2 K622q)
  have f627 : Exa Z T622.heap so "java/lang/String" := (Exa.keep prem6 K622q)
  have f628 : Fld Z T622.heap so "java/lang/String" "value" "[B" (.ref sv) := (Fld.keep prem7 K622q (ninS prem14 nin0))
  have f629 : Fld Z T622.heap so "java/lang/String" "coder" "B" (.int 0) := (Fld.keep prem8 K622q (ninS prem14 nin0))
  have f630 : Arv Z T622.heap sv ks .byte (9 : Int32) (ts.map Value.int) (.int 0) := (Arv.keep prem9 K622q (ninS prem15 nin0))
  obtain ⟨T625, v625, L625, X625, q625, st625⟩ := callPr X624 hx hZ (y := own_m29) hown (own_w hw (i := 67) rfl) (own_w hw (i := 68) rfl) (own_selfsel (own_w hw (i := 68) rfl) (own_w hw (i := 70) rfl) (own_w hw (i := 69) rfl) (by decide)) (own_w hw (i := 69) rfl) (own_w hw (i := 26) rfl) (own_w hw (i := 71) rfl) (by decide) (rm_put_14_9_34 hw G ob so sv ks ts vb_622 kb_622 bs T622.heap O623 (prem0) (prem1) f626 p622_1 p622_2 f627 f628 f629 f630 p622_4 g_vb_622) e624 (W := 0) (by decide) (by decide) (by decide) (by decide) f626 (g := (mkF m 30 #[rv ob, rv so, iv 9] [(.ref so), (.int 14), (.ref ob)])) rfl (by rw [hml]; rfl) (a := ob) (argsL := [(.int 14), (.ref so)]) (rest := []) (lenOf pd32 rfl) rfl rfl (Nat.le_of_eq rfl) (D d5_30)
  obtain ⟨rfl, N625q, K625q, p625_0⟩ := q625
  have N625 := Fr.app N622 N625q
  have O631 := Old0.keep O623 K625q (allS g_vb_622 all0)
  have K631 := Keep.trans K623 K625q (allS (Or.inr z_vb_622) all0)
  have f633 : Fld Z T625.heap ob "java/lang/AbstractStringBuilder" "count" "I" (.int 14) := (Fld.keep p622_3 K625q (ninS ne_ob_vb_622 nin0))
  obtain ⟨T632, X632, e632, st632⟩ := getF X625 hx hZ hown (host := "") (Or.inl (own_w hw (i := 60) rfl)) Via.refl rfl f633 (g := (mkF m 35 #[rv ob, rv so, iv 9] [(.ref ob), (.ref ob)])) rfl rfl (D d5_35)
  have f635 : Exa Z T625.heap ob "java/lang/StringBuilder" := (Exa.keep f626 K625q)
  obtain ⟨T634, h634, X634, e634, W634, st634⟩ := putF X632 hx hZ hown (host := "") (Or.inl (own_w hw (i := 60) rfl)) Via.refl e632 f633 f635 (Or.inl (own_w hw (i := 61) rfl)) (own_w hw (i := 17) rfl) (ty := .int) (by decide) rfl rfl (g := (mkF m 40 #[rv ob, rv so, iv 9] [(.int 23), (.ref ob)])) rfl rfl (D d5_40)
  have O636 := Old0.wr O631 W634 prem11
  have K636 := Keep.wr K631 W634 (Or.inl (List.mem_of_getElem? (i := 0) rfl))
  have N634 := Fr.snoc X634 N625 prem11
  have f634 : Fld Z h634 ob "java/lang/AbstractStringBuilder" "count" "I" (.int 23) := Fld.same W634 f633
  have f637 : Fld Z h634 ob "java/lang/AbstractStringBuilder" "value" "[B" (.ref vb_622) := (Fld.other W634 (Fld.keep p622_1 K625q (ninS ne_ob_vb_622 nin0)) (Or.inr (slot_ne (Or.inl (own_w hw (i := 33) rfl)) (Or.inl (own_w hw (i := 61) rfl)) (by decide) (t := (.array .byte)) (t' := .int) (by decide) (by decide))))
  have f638 : Fld Z h634 ob "java/lang/AbstractStringBuilder" "coder" "B" (.int 0) := (Fld.other W634 (Fld.keep p622_2 K625q (ninS ne_ob_vb_622 nin0)) (Or.inr (slot_ne (Or.inl (own_w hw (i := 35) rfl)) (Or.inl (own_w hw (i := 61) rfl)) (by decide) (t := .byte) (t' := .int) (by decide) (by decide))))
  have f639 : Arv Z h634 vb_622 kb_622 .byte (34 : Int32) ((bs ++ ts).map Value.int) (.int 0) := (Arv.other p625_0 W634 (Ne.symm ne_ob_vb_622))
  refine Go.of (T' := T634) (f' := (mkF m 44 #[rv ob, rv so, iv 9] [(.ref ob)])) (fun _ k => XS.aloadN X0.here hx rfl (D d5_0) rfl rfl (XS.ifnonnullYes X0.here hx rfl (pc0 := 1) (pc' := 9) rfl (D d5_1) rfl (by decide) (by decide) (XS.aloadN X0.here hx rfl (D d5_9) rfl rfl (st620 _ (XS.istoreN X620.here hx rfl (D d5_13) rfl (l' := #[rv ob, rv so, iv 9]) rfl (XS.aloadN X620.here hx rfl (D d5_14) rfl rfl (XS.aloadN X620.here hx rfl (D d5_15) rfl rfl (st621 _ (XS.iloadN X621.here hx rfl (D d5_19) rfl (XS.iadd X621.here hx rfl (D d5_20) rfl (st622 _ (XS.aloadN X622.here hx rfl (D d5_24) rfl rfl (XS.aloadN X622.here hx rfl (D d5_25) rfl rfl (st624 _ (XS.aloadN X624.here hx rfl (D d5_29) rfl rfl (st625 _ (XS.aloadN X625.here hx rfl (D d5_33) rfl rfl (XS.dup X625.here hx rfl (D d5_34) rfl rfl (st632 _ (XS.iloadN X632.here hx rfl (D d5_38) rfl (XS.iadd X632.here hx rfl (D d5_39) rfl (st634 _ (XS.aloadN X634.here hx rfl (D d5_43) rfl rfl k))))))))))))))))))))))) ?_
  exact Go.retA X634 hx hlk hret rfl rfl (D d5_44) (by decide) (by decide) (by rw [e634]; exact ⟨vb_622, kb_622, rfl, N634, K636, z_vb_622, f637, f638, f634, f639⟩)
theorem ef_rm_sba_14_9_16 (m : MethodId) (ob : Addr) (so : Addr) : entryFrame m #[(.ref ob), (.ref so)] 2 = mkF m 0 #[rv ob, rv so] [] := by first | (simp [entryFrame, mkF, argsToLocals, Value.category]; done) | rfl
set_option maxRecDepth 65536 in
set_option maxHeartbeats 40000000 in
theorem rm_sba_14_9_16 {l : Launch} {Z : State} {a0 : Array Value} {A : Nat → Addr} {KC : Nat → Cell} {IC : Nat → Int32} {VC : Nat → Value} (hw : ∀ d ∈ tables_1, d.before a0 Z = true) (G : own_Ctx Z A KC IC VC) (ob : Addr) (so : Addr) (sv : Addr) (ks : ClassId) (ts : List Int32) (va : Addr) (kv : ClassId) (bs : List Int32) (h0 : Heap) (O0 : Ext Z.heap h0) (prem0 : bs.length = 14) (prem1 : ts.length = 9) (prem2 : Exa Z h0 ob "java/lang/StringBuilder") (prem3 : Fld Z h0 ob "java/lang/AbstractStringBuilder" "value" "[B" (.ref va)) (prem4 : Fld Z h0 ob "java/lang/AbstractStringBuilder" "coder" "B" (.int (0 : Int32))) (prem5 : Fld Z h0 ob "java/lang/AbstractStringBuilder" "count" "I" (.int (14 : Int32))) (prem6 : Exa Z h0 so "java/lang/String") (prem7 : Fld Z h0 so "java/lang/String" "value" "[B" (.ref sv)) (prem8 : Fld Z h0 so "java/lang/String" "coder" "B" (.int (0 : Int32))) (prem9 : Arv Z h0 sv ks .byte (9 : Int32) (ts.map Value.int) (.int (0 : Int32))) (prem10 : Arv Z h0 va kv .byte (16 : Int32) (bs.map Value.int) (.int (0 : Int32))) (prem11 : Z.heap.size ≤ ob) (prem12 : Z.heap.size ≤ va) (prem13 : ob ≠ va) (prem14 : so ≠ ob) (prem15 : sv ≠ ob) (prem16 : so ≠ va) (prem17 : sv ≠ va) :
    Ok l Z own_m36 jdk_67_method_7_code 2 (some (.object "java/lang/StringBuilder")) ({ frames := 5, cells := 1, slots := 34, locals := 76 } : Room) #[(.ref ob), (.ref so)] h0
      (fun v h L => ∃ vb : Addr, ∃ kb : ClassId, v = some (.ref ob) ∧ (Fr Z.heap.size L) ∧ (Keep h0 h [ob]) ∧ (h0.size ≤ vb) ∧ (Fld Z h ob "java/lang/AbstractStringBuilder" "value" "[B" (.ref vb)) ∧ (Fld Z h ob "java/lang/AbstractStringBuilder" "coder" "B" (.int (0 : Int32))) ∧ (Fld Z h ob "java/lang/AbstractStringBuilder" "count" "I" (.int (23 : Int32))) ∧ (Arv Z h vb kb .byte (34 : Int32) ((bs ++ ts).map Value.int) (.int (0 : Int32)))) := by
  refine Ok.mk pn37 ?_
  intro p e s m below meth c T0 hx hby hml hown hnm hret hlk hZ e0 X0
  refine Go.cast (ef_rm_sba_14_9_16 m ob so) ?_
  have D := @hb _ _ hby
  have N0 := Fr.nil Z.heap.size
  have K0 : Keep h0 h0 [ob] := Keep.refl _ _
  obtain ⟨T640, v640, L640, X640, q640, st640⟩ := callSu X0 hx hZ (y := own_m33) hown (own_w hw (i := 42) rfl) (nf_mate (own_w hw (i := 65) rfl) rfl) (own_w hw (i := 43) rfl) (own_w hw (i := 44) rfl) (by decide) (own_w hw (i := 46) rfl) (own_w hw (i := 26) rfl) (by decide) (rm_aba_14_9_16 hw G ob so sv ks ts va kv bs h0 O0 (prem0) (prem1) prem2 prem3 prem4 prem5 prem6 prem7 prem8 prem9 prem10 prem11 prem12 prem13 prem14 prem15 prem16 prem17) e0 (W := 0) (by decide) (by decide) (by decide) (by decide) (Ins.self prem2) (g := (mkF m 2 #[rv ob, rv so] [(.ref so), (.ref ob)])) rfl (by rw [hml]; rfl) (argsL := [(.ref so)]) (rest := []) (lenOf pd35 rfl) rfl rfl (Nat.le_of_eq rfl) (D d4_2)
  obtain ⟨vb_640, kb_640, rfl, N640q, K640q, p640_0, p640_1, p640_2, p640_3, p640_4⟩ := q640
  have N640 := Fr.app N0 N640q
  have O641 := Old0.keep O0 K640q (allS prem11 all0)
  have K641 := Keep.trans K0 K640q (allS (Or.inl (List.mem_of_getElem? (i := 0) rfl)) all0)
  have z_vb_640 : h0.size ≤ vb_640 := Nat.le_trans K0.1 p640_0
  have g_vb_640 : Z.heap.size ≤ vb_640 := Nat.le_trans O0.1 p640_0
  have ne_ob_vb_640 : ob ≠ vb_640 := Nat.ne_of_lt (Nat.lt_of_lt_of_le prem2.lt p640_0)
  have ne_so_vb_640 : so ≠ vb_640 := Nat.ne_of_lt (Nat.lt_of_lt_of_le prem6.lt p640_0)
  have ne_sv_vb_640 : sv ≠ vb_640 := Nat.ne_of_lt (Nat.lt_of_lt_of_le prem9.lt p640_0)
  have ne_va_vb_640 : va ≠ vb_640 := Nat.ne_of_lt (Nat.lt_of_lt_of_le prem10.lt p640_0)
  refine Go.of (T' := T640) (f' := (mkF m 7 #[rv ob, rv so] [(.ref ob)])) (fun _ k => XS.aloadN X0.here hx rfl (D d4_0) rfl rfl (XS.aloadN X0.here hx rfl (D d4_1) rfl rfl (st640 _ (XT.pop X640.here hx rfl (D d4_5) rfl rfl (XS.aloadN X640.here hx rfl (D d4_6) rfl rfl k))))) ?_
  exact Go.retA X640 hx hlk hret rfl rfl (D d4_7) (by decide) (by decide) ⟨vb_640, kb_640, rfl, N640, K641, z_vb_640, p640_1, p640_2, p640_3, p640_4⟩
theorem ef_rm_ecf_24_34 (m : MethodId) (ob : Addr) : entryFrame m #[(.ref ob), (.int (24 : Int32))] 3 = mkF m 0 #[rv ob, iv (24 : Int32), .unset] [] := by first | (simp [entryFrame, mkF, argsToLocals, Value.category]; done) | rfl
set_option maxRecDepth 65536 in
set_option maxHeartbeats 40000000 in
theorem rm_ecf_24_34 {l : Launch} {Z : State} {a0 : Array Value} {A : Nat → Addr} {KC : Nat → Cell} {IC : Nat → Int32} {VC : Nat → Value} (hw : ∀ d ∈ tables_1, d.before a0 Z = true) (G : own_Ctx Z A KC IC VC) (ob : Addr) (va : Addr) (kv : ClassId) (bs : List Int32) (h0 : Heap) (O0 : Ext Z.heap h0) (prem0 : Exa Z h0 ob "java/lang/StringBuilder") (prem1 : Fld Z h0 ob "java/lang/AbstractStringBuilder" "value" "[B" (.ref va)) (prem2 : Fld Z h0 ob "java/lang/AbstractStringBuilder" "coder" "B" (.int (0 : Int32))) (prem3 : Arv Z h0 va kv .byte (34 : Int32) (bs.map Value.int) (.int (0 : Int32))) :
    Ok l Z own_m23 jdk_68_method_9_code 3 none ({ frames := 0, cells := 0, slots := 0, locals := 0 } : Room) #[(.ref ob), (.int (24 : Int32))] h0
      (fun v h L => v = none ∧ (h = h0) ∧ (L = [])) := by
  refine Ok.mk pn24 ?_
  intro p e s m below meth c T0 hx hby hml hown hnm hret hlk hZ e0 X0
  refine Go.cast (ef_rm_ecf_24_34 m ob) ?_
  have D := @hb _ _ hby
  have N0 := Fr.nil Z.heap.size
  have K0 : Keep h0 h0 [] := Keep.refl _ _
  obtain ⟨T642, X642, e642, st642⟩ := getF X0 hx hZ hown (host := "") (Or.inl (own_w hw (i := 32) rfl)) Via.refl e0 prem1 (g := (mkF m 1 #[rv ob, iv 24, .unset] [(.ref ob)])) rfl rfl (D d8_1)
  obtain ⟨cl643, Ar643, qk643, S643, Ng643, H643, G643⟩ := id prem3
  obtain ⟨T644, X644, e644, st644⟩ := getF X642 hx hZ hown (host := "") (Or.inl (own_w hw (i := 34) rfl)) Via.refl e642 prem2 (g := (mkF m 6 #[rv ob, iv 24, .unset] [(.ref ob), (.int 34)])) rfl rfl (D d8_6)
  refine Go.of (T' := T644) (f' := (mkF m 38 #[rv ob, iv 24, iv 34] [])) (fun _ k => XS.aloadN X0.here hx rfl (D d8_0) rfl rfl (st642 _ (X642.arraylength hx (by rw [e642]; exact Ar643.1) (State.isArrayOf_alike hZ.alike Ar643.2.1) (g := (mkF m 4 #[rv ob, iv 24, .unset] [(.ref va)])) rfl rfl (D d8_4) _ (by rw [len_of S643 Ng643]; exact (XS.aloadN X642.here hx rfl (D d8_5) rfl rfl (st644 _ (XS.ishr X644.here hx rfl (D d8_9) rfl (XS.istoreN X644.here hx rfl (D d8_10) rfl (l' := #[rv ob, iv 24, iv 34]) rfl (XS.iloadN X644.here hx rfl (D d8_11) rfl (XS.iloadN X644.here hx rfl (D d8_12) rfl (XS.isub X644.here hx rfl (D d8_13) rfl (XS.ifYes X644.here hx rfl (pc0 := 14) (pc' := 38) rfl (D d8_14) rfl ((if0 _ _).trans (flt (by decide : ¬ ((0 : Int32) < (-10 : Int32)))).2.2.2) (by decide) (by decide) k)))))))))))) ?_
  exact Go.retV X644 hx hlk hret (D d8_38) (by decide) (by decide) (by rw [e644]; exact ⟨rfl, rfl, by simp⟩)
theorem ef_rm_gch_3_23_34 (m : MethodId) (va : Addr) : entryFrame m #[(.int (3 : Int32)), (.int (24 : Int32)), (.ref va)] 7 = mkF m 0 #[iv (3 : Int32), iv (24 : Int32), rv va, .unset, .unset, .unset, .unset] [] := by first | (simp [entryFrame, mkF, argsToLocals, Value.category]; done) | rfl
set_option maxRecDepth 65536 in
set_option maxHeartbeats 40000000 in
theorem rm_gch_3_23_34 {l : Launch} {Z : State} {a0 : Array Value} {A : Nat → Addr} {KC : Nat → Cell} {IC : Nat → Int32} {VC : Nat → Value} (hw : ∀ d ∈ tables_1, d.before a0 Z = true) (G : own_Ctx Z A KC IC VC) (va : Addr) (kv : ClassId) (bs : List Int32) (h0 : Heap) (O0 : Ext Z.heap h0) (prem0 : bs.length = 23) (prem1 : Arv Z h0 va kv .byte (34 : Int32) (bs.map Value.int) (.int (0 : Int32))) (prem2 : Z.heap.size ≤ va) :
    Ok l Z own_m50 jdk_33_method_12_code 7 (some .int) ({ frames := 0, cells := 0, slots := 0, locals := 0 } : Room) #[(.int (3 : Int32)), (.int (24 : Int32)), (.ref va)] h0
      (fun v h L => v = some (.int (23 : Int32)) ∧ (Fr Z.heap.size L) ∧ (Keep h0 h [va]) ∧ (Arv Z h va kv .byte (34 : Int32) ((bs ++ [(51 : Int32)]).map Value.int) (.int (0 : Int32)))) := by
  refine Ok.mk pn51 ?_
  intro p e s m below meth c T0 hx hby hml hown hnm hret hlk hZ e0 X0
  refine Go.cast (ef_rm_gch_3_23_34 m va) ?_
  obtain ⟨-, -, -, -, -, -, -, -, -, -, -, -, -, -, -, -, -, -, -, -, S_DigitOnes, -, -, -, -, -, AD_s_DigitOnes, ZD_s_DigitOnes, GD_s_DigitOnes_3, -⟩ := id G
  have D := @hb _ _ hby
  have N0 := Fr.nil Z.heap.size
  have K0 : Keep h0 h0 [va] := Keep.refl _ _
  have fp : Arv Z h0 va kv .byte (34 : Int32) ((bs ++ [(0 : Int32)]).map Value.int) (.int 0) := Arv.pad prem1 (own_padZ bs 1)
  obtain ⟨T649, X649, e649, st649⟩ := getS2 X0 hx hZ hown (host := "") (Or.inl (own_w hw (i := 136) rfl)) Via.refl e0 (Sta.ext O0 S_DigitOnes) (g := (mkF m 78 #[iv (-3 : Int32), iv 24, rv va, .unset, .unset, iv 23, iv 0] [(.int 23), (.ref va)])) rfl (D d21_78)
  have A650 := Arr.ext O0 AD_s_DigitOnes
  have hin650 : ¬ ((3 : Int32) < 0 ∨ ((KC 2)).slots.size ≤ ((3 : Int32)).toNatClampNeg) := by rw [ZD_s_DigitOnes]; decide
  obtain ⟨cl651, Ar651, qk651, S651, Ng651, H651, G651⟩ := id fp
  obtain ⟨T651, h651, X651, e651, W651, st651⟩ := stB X649 hx hZ e649 Ar651 (j := (23 : Int32)) (inb_of S651 ⟨by decide, by decide⟩) (g := (mkF m 84 #[iv (-3 : Int32), iv 24, rv va, .unset, .unset, iv 23, iv 0] [(.int 51), (.int 23), (.ref va)])) rfl rfl (D d21_84)
  have O652 := Old0.wr O0 W651 prem2
  have K652 := Keep.wr K0 W651 (Or.inl (List.mem_of_getElem? (i := 0) rfl))
  have f651 : Arv Z h651 va kv .byte (34 : Int32) (((bs ++ [(0 : Int32)]).map Value.int).set 23 (.int 51)) (.int 0) := Arv.set Ar651 qk651 S651 Ng651 H651 G651 (v := (.int 51)) (by decide) W651 23 rfl (by simp [prem0])
  have N651 := Fr.snoc X651 N0 prem2
  refine Go.of (T' := T651) (f' := (mkF m 88 #[iv (-3 : Int32), iv 24, rv va, .unset, .unset, iv 23, iv 0] [(.int (-9 : Int32)), (.int (-3 : Int32))])) (fun _ k => XS.iloadN X0.here hx rfl (D d21_0) rfl (XS.istore X0.here hx rfl (D d21_1) rfl (l' := #[iv 3, iv 24, rv va, .unset, .unset, iv 24, .unset]) rfl (XS.iloadN X0.here hx rfl (D d21_3) rfl (XS.ifYes X0.here hx rfl (pc0 := 4) (pc' := 11) rfl (D d21_4) rfl ((if0 _ _).trans (flt (by decide : ¬ ((3 : Int32) < (0 : Int32)))).2.1) (by decide) (by decide) (XS.iconst X0.here hx rfl (D d21_11) (XS.istore X0.here hx rfl (D d21_12) rfl (l' := #[iv 3, iv 24, rv va, .unset, .unset, iv 24, iv 0]) rfl (XS.iload X0.here hx rfl (D d21_14) rfl (XS.ifNo X0.here hx rfl (D d21_16) rfl ((if0 _ _).trans (teq (by decide : (0 : Int32) = (0 : Int32))).2) (XS.iloadN X0.here hx rfl (D d21_19) rfl (XS.ineg X0.here hx rfl (D d21_20) rfl (XS.istoreN X0.here hx rfl (D d21_21) rfl (l' := #[iv (-3 : Int32), iv 24, rv va, .unset, .unset, iv 24, iv 0]) rfl (XS.iloadN X0.here hx rfl (D d21_22) rfl (XS.bipush X0.here hx rfl (D d21_23) (XS.icmpYes X0.here hx rfl (pc0 := 25) (pc' := 72) rfl (D d21_25) rfl (tlt (by decide : (-100 : Int32) < (-3 : Int32))).2.2.1 (by decide) (by decide) (XS.aloadN X0.here hx rfl (D d21_72) rfl rfl (XS.iinc X0.here hx rfl (D d21_73) rfl (l' := #[iv (-3 : Int32), iv 24, rv va, .unset, .unset, iv 23, iv 0]) rfl (XS.iload X0.here hx rfl (D d21_76) rfl (st649 _ (XS.iloadN X649.here hx rfl (D d21_81) rfl (XS.ineg X649.here hx rfl (D d21_82) rfl (X649.baloadBytes hx (j := (3 : Int32)) (v := (.int 51)) (by rw [e649]; exact A650.1) (State.isArrayOf_alike hZ.alike A650.2.1) A650.2.2 hin650 GD_s_DigitOnes_3 (g := (mkF m 83 #[iv (-3 : Int32), iv 24, rv va, .unset, .unset, iv 23, iv 0] [(.int 3), (.ref (A 6)), (.int 23), (.ref va)])) rfl rfl (D d21_83) _ (st651 _ (XS.iloadN X651.here hx rfl (D d21_85) rfl (XS.bipush X651.here hx rfl (D d21_86) k)))))))))))))))))))))))) ?_
  have fe654 : Arv Z h651 va kv .byte (34 : Int32) ((bs ++ [(51 : Int32)]).map Value.int) (.int 0) := own_set1 bs 23 prem0 (51 : Int32) ▸ f651
  refine Go.of (T' := T651) (f' := (mkF m 120 #[iv (-3 : Int32), iv 24, rv va, .unset, .unset, iv 23, iv 0] [(.int 23)])) (fun _ k => XS.icmpYes X651.here hx rfl (pc0 := 88) (pc' := 104) rfl (D d21_88) rfl (flt (by decide : ¬ ((-3 : Int32) < (-9 : Int32)))).2.1 (by decide) (by decide) (XS.iload X651.here hx rfl (D d21_104) rfl (XS.ifYes X651.here hx rfl (pc0 := 106) (pc' := 118) rfl (D d21_106) rfl ((if0 _ _).trans (teq (by decide : (0 : Int32) = (0 : Int32))).1) (by decide) (by decide) (XS.iload X651.here hx rfl (D d21_118) rfl k)))) ?_
  exact Go.retI X651 hx hlk hret (D d21_120) (by decide) (by decide) (by rw [e651]; exact ⟨rfl, N651, K652, fe654⟩)
theorem ef_rm_abi_3_23_34 (m : MethodId) (ob : Addr) : entryFrame m #[(.ref ob), (.int (3 : Int32))] 4 = mkF m 0 #[rv ob, iv (3 : Int32), .unset, .unset] [] := by first | (simp [entryFrame, mkF, argsToLocals, Value.category]; done) | rfl
set_option maxRecDepth 65536 in
set_option maxHeartbeats 40000000 in
theorem rm_abi_3_23_34 {l : Launch} {Z : State} {a0 : Array Value} {A : Nat → Addr} {KC : Nat → Cell} {IC : Nat → Int32} {VC : Nat → Value} (hw : ∀ d ∈ tables_1, d.before a0 Z = true) (G : own_Ctx Z A KC IC VC) (ob : Addr) (va : Addr) (kv : ClassId) (bs : List Int32) (h0 : Heap) (O0 : Ext Z.heap h0) (prem0 : bs.length = 23) (prem1 : Exa Z h0 ob "java/lang/StringBuilder") (prem2 : Fld Z h0 ob "java/lang/AbstractStringBuilder" "value" "[B" (.ref va)) (prem3 : Fld Z h0 ob "java/lang/AbstractStringBuilder" "coder" "B" (.int (0 : Int32))) (prem4 : Fld Z h0 ob "java/lang/AbstractStringBuilder" "count" "I" (.int (23 : Int32))) (prem5 : Arv Z h0 va kv .byte (34 : Int32) (bs.map Value.int) (.int (0 : Int32))) (prem6 : Z.heap.size ≤ ob) (prem7 : Z.heap.size ≤ va) (prem8 : ob ≠ va) :
    Ok l Z own_m54 jdk_68_method_32_code 4 (some (.object "java/lang/AbstractStringBuilder")) ({ frames := 1, cells := 0, slots := 0, locals := 18 } : Room) #[(.ref ob), (.int (3 : Int32))] h0
      (fun v h L => v = some (.ref ob) ∧ (Fr Z.heap.size L) ∧ (Keep h0 h [ob, va]) ∧ (Fld Z h ob "java/lang/AbstractStringBuilder" "value" "[B" (.ref va)) ∧ (Fld Z h ob "java/lang/AbstractStringBuilder" "coder" "B" (.int (0 : Int32))) ∧ (Fld Z h ob "java/lang/AbstractStringBuilder" "count" "I" (.int (24 : Int32))) ∧ (Arv Z h va kv .byte (34 : Int32) ((bs ++ [(51 : Int32)]).map Value.int) (.int (0 : Int32)))) := by
  refine Ok.mk pn55 ?_
  intro p e s m below meth c T0 hx hby hml hown hnm hret hlk hZ e0 X0
  refine Go.cast (ef_rm_abi_3_23_34 m ob) ?_
  have D := @hb _ _ hby
  have N0 := Fr.nil Z.heap.size
  have K0 : Keep h0 h0 [ob, va] := Keep.refl _ _
  obtain ⟨T656, X656, e656, st656⟩ := getF X0 hx hZ hown (host := "") (Or.inl (own_w hw (i := 60) rfl)) Via.refl e0 prem4 (g := (mkF m 1 #[rv ob, iv 3, .unset, .unset] [(.ref ob)])) rfl rfl (D d13_1)
  obtain ⟨T657, v657, L657, X657, q657, st657⟩ := callSt X656 hx hZ (y := own_m12) hown (own_w hw (i := 101) rfl) (own_w hw (i := 102) rfl) (own_w hw (i := 103) rfl) (own_w hw (i := 104) rfl) (by decide) (rm_ss_3 hw G   h0 O0 ) e656 (W := 1) (by decide) (by decide) (by decide) (by decide) (g := (mkF m 7 #[rv ob, iv 3, iv 23, .unset] [(.int 3), (.int 23)])) rfl (by rw [hml]; rfl) (argsL := [(.int 3)]) (rest := [(.int 23)]) (lenOf pd48 rfl) rfl rfl (Nat.le_of_eq rfl) (D d13_7)
  obtain ⟨rfl, e657, rfl⟩ := q657
  have N657 := Fr.app N0 (Fr.nil _)
  obtain ⟨T658, v658, L658, X658, q658, st658⟩ := callPr X657 hx hZ (y := own_m23) hown (own_w hw (i := 62) rfl) (own_w hw (i := 63) rfl) (own_selfsel (own_w hw (i := 63) rfl) (own_w hw (i := 65) rfl) (own_w hw (i := 64) rfl) (by decide)) (own_w hw (i := 64) rfl) (own_w hw (i := 26) rfl) (own_w hw (i := 66) rfl) (by decide) (rm_ecf_24_34 hw G ob va kv bs h0 O0 prem1 prem2 prem3 prem5) e657 (W := 0) (by decide) (by decide) (by decide) (by decide) prem1 (g := (mkF m 14 #[rv ob, iv 3, iv 23, iv 24] [(.int 24), (.ref ob)])) rfl (by rw [hml]; rfl) (a := ob) (argsL := [(.int 24)]) (rest := []) (lenOf pd2 rfl) rfl rfl (Nat.le_of_eq rfl) (D d13_14)
  obtain ⟨rfl, e658, rfl⟩ := q658
  have N658 := Fr.app N657 (Fr.nil _)
  obtain ⟨T659, v659, L659, X659, q659, st659⟩ := callVi X658 hx hZ (y := own_m14) (z := own_m14) hown (own_w hw (i := 128) rfl) (own_w hw (i := 129) rfl) (notFace_of_selects (args := #[]) (mvT hZ (own_w hw (i := 131) rfl))) (own_w hw (i := 131) rfl) (own_w hw (i := 130) rfl) (own_w hw (i := 132) rfl) (own_w hw (i := 26) rfl) (by decide) (rm_lat hw G ob  h0 O0 prem3) e658 (W := 0) (by decide) (by decide) (by decide) (by decide) prem1 (g := (mkF m 18 #[rv ob, iv 3, iv 23, iv 24] [(.ref ob)])) rfl (by rw [hml]; rfl) (argsL := []) (rest := []) (lenOf pd52 rfl) rfl rfl (Nat.le_of_eq rfl) (D d13_18)
  obtain ⟨rfl, e659, rfl⟩ := q659
  have N659 := Fr.app N658 (Fr.nil _)
  obtain ⟨T661, X661, e661, st661⟩ := getF X659 hx hZ hown (host := "") (Or.inl (own_w hw (i := 32) rfl)) Via.refl e659 prem2 (g := (mkF m 27 #[rv ob, iv 3, iv 23, iv 24] [(.ref ob), (.int 24), (.int 3)])) rfl rfl (D d13_27)
  obtain ⟨T662, v662, L662, X662, q662, st662⟩ := callSt X661 hx hZ (y := own_m50) hown (own_w hw (i := 133) rfl) (own_w hw (i := 134) rfl) (own_w hw (i := 103) rfl) (own_w hw (i := 135) rfl) (by decide) (rm_gch_3_23_34 hw G va kv bs h0 O0 (prem0) prem5 prem7) e661 (W := 0) (by decide) (by decide) (by decide) (by decide) (g := (mkF m 30 #[rv ob, iv 3, iv 23, iv 24] [(.ref va), (.int 24), (.int 3)])) rfl (by rw [hml]; rfl) (argsL := [(.int 3), (.int 24), (.ref va)]) (rest := []) (lenOf pd53 rfl) rfl rfl (Nat.le_of_eq rfl) (D d13_30)
  obtain ⟨rfl, N662q, K662q, p662_0⟩ := q662
  have N662 := Fr.app N659 N662q
  have O663 := Old0.keep O0 K662q (allS prem7 all0)
  have K663 := Keep.trans K0 K662q (allS (Or.inl (List.mem_of_getElem? (i := 1) rfl)) all0)
  have f665 : Exa Z T662.heap ob "java/lang/StringBuilder" := (Exa.keep prem1 K662q)
  have f666 : Fld Z T662.heap ob "java/lang/AbstractStringBuilder" "count" "I" (.int 23) := (Fld.keep prem4 K662q (ninS prem8 nin0))
  obtain ⟨T664, h664, X664, e664, W664, st664⟩ := putF X662 hx hZ hown (host := "") (Or.inl (own_w hw (i := 60) rfl)) Via.refl rfl f666 f665 (Or.inl (own_w hw (i := 61) rfl)) (own_w hw (i := 17) rfl) (ty := .int) (by decide) rfl rfl (g := (mkF m 50 #[rv ob, iv 3, iv 23, iv 24] [(.int 24), (.ref ob)])) rfl rfl (D d13_50)
  have O667 := Old0.wr O663 W664 prem6
  have K667 := Keep.wr K663 W664 (Or.inl (List.mem_of_getElem? (i := 0) rfl))
  have N664 := Fr.snoc X664 N662 prem6
  have f664 : Fld Z h664 ob "java/lang/AbstractStringBuilder" "count" "I" (.int 24) := Fld.same W664 f666
  refine Go.of (T' := T664) (f' := (mkF m 53 #[rv ob, iv 3, iv 23, iv 24] [])) (fun _ k => XS.aloadN X0.here hx rfl (D d13_0) rfl rfl (st656 _ (XS.istoreN X656.here hx rfl (D d13_4) rfl (l' := #[rv ob, iv 3, iv 23, .unset]) rfl (XS.iloadN X656.here hx rfl (D d13_5) rfl (XS.iloadN X656.here hx rfl (D d13_6) rfl (st657 _ (XS.iadd X657.here hx rfl (D d13_10) rfl (XS.istoreN X657.here hx rfl (D d13_11) rfl (l' := #[rv ob, iv 3, iv 23, iv 24]) rfl (XS.aloadN X657.here hx rfl (D d13_12) rfl rfl (XS.iloadN X657.here hx rfl (D d13_13) rfl (st658 _ (XS.aloadN X658.here hx rfl (D d13_17) rfl rfl (st659 _ (XS.ifNo X659.here hx rfl (D d13_21) rfl ((if0 _ _).trans (feq (by decide : ¬ ((1 : Int32) = (0 : Int32)))).1) (XS.iloadN X659.here hx rfl (D d13_24) rfl (XS.iloadN X659.here hx rfl (D d13_25) rfl (XS.aloadN X659.here hx rfl (D d13_26) rfl rfl (st661 _ (st662 _ (XT.pop X662.here hx rfl (D d13_33) rfl rfl (XS.goto X662.here hx rfl (pc0 := 34) (pc' := 48) rfl (D d13_34) (by decide) (by decide) (XS.aloadN X662.here hx rfl (D d13_48) rfl rfl (XS.iloadN X662.here hx rfl (D d13_49) rfl (st664 _ k)))))))))))))))))))))))) ?_
  have f668 : Fld Z h664 ob "java/lang/AbstractStringBuilder" "value" "[B" (.ref va) := (Fld.other W664 (Fld.keep prem2 K662q (ninS prem8 nin0)) (Or.inr (slot_ne (Or.inl (own_w hw (i := 33) rfl)) (Or.inl (own_w hw (i := 61) rfl)) (by decide) (t := (.array .byte)) (t' := .int) (by decide) (by decide))))
  have f669 : Fld Z h664 ob "java/lang/AbstractStringBuilder" "coder" "B" (.int 0) := (Fld.other W664 (Fld.keep prem3 K662q (ninS prem8 nin0)) (Or.inr (slot_ne (Or.inl (own_w hw (i := 35) rfl)) (Or.inl (own_w hw (i := 61) rfl)) (by decide) (t := .byte) (t' := .int) (by decide) (by decide))))
  have f670 : Arv Z h664 va kv .byte (34 : Int32) ((bs ++ [(51 : Int32)]).map Value.int) (.int 0) := (Arv.other p662_0 W664 (Ne.symm prem8))
  refine Go.of (T' := T664) (f' := (mkF m 54 #[rv ob, iv 3, iv 23, iv 24] [(.ref ob)])) (fun _ k => XS.aloadN X664.here hx rfl (D d13_53) rfl rfl k) ?_
  exact Go.retA X664 hx hlk hret rfl rfl (D d13_54) (by decide) (by decide) (by rw [e664]; exact ⟨rfl, N664, K667, f668, f669, f664, f670⟩)
theorem ef_rm_sbi_3_23_34 (m : MethodId) (ob : Addr) : entryFrame m #[(.ref ob), (.int (3 : Int32))] 2 = mkF m 0 #[rv ob, iv (3 : Int32)] [] := by first | (simp [entryFrame, mkF, argsToLocals, Value.category]; done) | rfl
set_option maxRecDepth 65536 in
set_option maxHeartbeats 40000000 in
theorem rm_sbi_3_23_34 {l : Launch} {Z : State} {a0 : Array Value} {A : Nat → Addr} {KC : Nat → Cell} {IC : Nat → Int32} {VC : Nat → Value} (hw : ∀ d ∈ tables_1, d.before a0 Z = true) (G : own_Ctx Z A KC IC VC) (ob : Addr) (va : Addr) (kv : ClassId) (bs : List Int32) (h0 : Heap) (O0 : Ext Z.heap h0) (prem0 : bs.length = 23) (prem1 : Exa Z h0 ob "java/lang/StringBuilder") (prem2 : Fld Z h0 ob "java/lang/AbstractStringBuilder" "value" "[B" (.ref va)) (prem3 : Fld Z h0 ob "java/lang/AbstractStringBuilder" "coder" "B" (.int (0 : Int32))) (prem4 : Fld Z h0 ob "java/lang/AbstractStringBuilder" "count" "I" (.int (23 : Int32))) (prem5 : Arv Z h0 va kv .byte (34 : Int32) (bs.map Value.int) (.int (0 : Int32))) (prem6 : Z.heap.size ≤ ob) (prem7 : Z.heap.size ≤ va) (prem8 : ob ≠ va) :
    Ok l Z own_m57 jdk_67_method_15_code 2 (some (.object "java/lang/StringBuilder")) ({ frames := 2, cells := 0, slots := 0, locals := 33 } : Room) #[(.ref ob), (.int (3 : Int32))] h0
      (fun v h L => v = some (.ref ob) ∧ (Fr Z.heap.size L) ∧ (Keep h0 h [ob, va]) ∧ (Fld Z h ob "java/lang/AbstractStringBuilder" "value" "[B" (.ref va)) ∧ (Fld Z h ob "java/lang/AbstractStringBuilder" "coder" "B" (.int (0 : Int32))) ∧ (Fld Z h ob "java/lang/AbstractStringBuilder" "count" "I" (.int (24 : Int32))) ∧ (Arv Z h va kv .byte (34 : Int32) ((bs ++ [(51 : Int32)]).map Value.int) (.int (0 : Int32)))) := by
  refine Ok.mk pn58 ?_
  intro p e s m below meth c T0 hx hby hml hown hnm hret hlk hZ e0 X0
  refine Go.cast (ef_rm_sbi_3_23_34 m ob) ?_
  have D := @hb _ _ hby
  have N0 := Fr.nil Z.heap.size
  have K0 : Keep h0 h0 [ob, va] := Keep.refl _ _
  obtain ⟨T671, v671, L671, X671, q671, st671⟩ := callSu X0 hx hZ (y := own_m54) hown (own_w hw (i := 97) rfl) (nf_mate (own_w hw (i := 65) rfl) rfl) (own_w hw (i := 98) rfl) (own_w hw (i := 44) rfl) (by decide) (own_w hw (i := 100) rfl) (own_w hw (i := 26) rfl) (by decide) (rm_abi_3_23_34 hw G ob va kv bs h0 O0 (prem0) prem1 prem2 prem3 prem4 prem5 prem6 prem7 prem8) e0 (W := 0) (by decide) (by decide) (by decide) (by decide) (Ins.self prem1) (g := (mkF m 2 #[rv ob, iv 3] [(.int 3), (.ref ob)])) rfl (by rw [hml]; rfl) (argsL := [(.int 3)]) (rest := []) (lenOf pd56 rfl) rfl rfl (Nat.le_of_eq rfl) (D d12_2)
  obtain ⟨rfl, N671q, K671q, p671_0, p671_1, p671_2, p671_3⟩ := q671
  have N671 := Fr.app N0 N671q
  have O672 := Old0.keep O0 K671q (allS prem6 (allS prem7 all0))
  have K672 := Keep.trans K0 K671q (allS (Or.inl (List.mem_of_getElem? (i := 0) rfl)) (allS (Or.inl (List.mem_of_getElem? (i := 1) rfl)) all0))
  refine Go.of (T' := T671) (f' := (mkF m 7 #[rv ob, iv 3] [(.ref ob)])) (fun _ k => XS.aloadN X0.here hx rfl (D d12_0) rfl rfl (XS.iloadN X0.here hx rfl (D d12_1) rfl (st671 _ (XT.pop X671.here hx rfl (D d12_5) rfl rfl (XS.aloadN X671.here hx rfl (D d12_6) rfl rfl k))))) ?_
  exact Go.retA X671 hx hlk hret rfl rfl (D d12_7) (by decide) (by decide) ⟨rfl, N671, K672, p671_0, p671_1, p671_2, p671_3⟩
theorem ef_rm_ecf_28_34 (m : MethodId) (ob : Addr) : entryFrame m #[(.ref ob), (.int (28 : Int32))] 3 = mkF m 0 #[rv ob, iv (28 : Int32), .unset] [] := by first | (simp [entryFrame, mkF, argsToLocals, Value.category]; done) | rfl
set_option maxRecDepth 65536 in
set_option maxHeartbeats 40000000 in
theorem rm_ecf_28_34 {l : Launch} {Z : State} {a0 : Array Value} {A : Nat → Addr} {KC : Nat → Cell} {IC : Nat → Int32} {VC : Nat → Value} (hw : ∀ d ∈ tables_1, d.before a0 Z = true) (G : own_Ctx Z A KC IC VC) (ob : Addr) (va : Addr) (kv : ClassId) (bs : List Int32) (h0 : Heap) (O0 : Ext Z.heap h0) (prem0 : Exa Z h0 ob "java/lang/StringBuilder") (prem1 : Fld Z h0 ob "java/lang/AbstractStringBuilder" "value" "[B" (.ref va)) (prem2 : Fld Z h0 ob "java/lang/AbstractStringBuilder" "coder" "B" (.int (0 : Int32))) (prem3 : Arv Z h0 va kv .byte (34 : Int32) (bs.map Value.int) (.int (0 : Int32))) :
    Ok l Z own_m23 jdk_68_method_9_code 3 none ({ frames := 0, cells := 0, slots := 0, locals := 0 } : Room) #[(.ref ob), (.int (28 : Int32))] h0
      (fun v h L => v = none ∧ (h = h0) ∧ (L = [])) := by
  refine Ok.mk pn24 ?_
  intro p e s m below meth c T0 hx hby hml hown hnm hret hlk hZ e0 X0
  refine Go.cast (ef_rm_ecf_28_34 m ob) ?_
  have D := @hb _ _ hby
  have N0 := Fr.nil Z.heap.size
  have K0 : Keep h0 h0 [] := Keep.refl _ _
  obtain ⟨T673, X673, e673, st673⟩ := getF X0 hx hZ hown (host := "") (Or.inl (own_w hw (i := 32) rfl)) Via.refl e0 prem1 (g := (mkF m 1 #[rv ob, iv 28, .unset] [(.ref ob)])) rfl rfl (D d8_1)
  obtain ⟨cl674, Ar674, qk674, S674, Ng674, H674, G674⟩ := id prem3
  obtain ⟨T675, X675, e675, st675⟩ := getF X673 hx hZ hown (host := "") (Or.inl (own_w hw (i := 34) rfl)) Via.refl e673 prem2 (g := (mkF m 6 #[rv ob, iv 28, .unset] [(.ref ob), (.int 34)])) rfl rfl (D d8_6)
  refine Go.of (T' := T675) (f' := (mkF m 38 #[rv ob, iv 28, iv 34] [])) (fun _ k => XS.aloadN X0.here hx rfl (D d8_0) rfl rfl (st673 _ (X673.arraylength hx (by rw [e673]; exact Ar674.1) (State.isArrayOf_alike hZ.alike Ar674.2.1) (g := (mkF m 4 #[rv ob, iv 28, .unset] [(.ref va)])) rfl rfl (D d8_4) _ (by rw [len_of S674 Ng674]; exact (XS.aloadN X673.here hx rfl (D d8_5) rfl rfl (st675 _ (XS.ishr X675.here hx rfl (D d8_9) rfl (XS.istoreN X675.here hx rfl (D d8_10) rfl (l' := #[rv ob, iv 28, iv 34]) rfl (XS.iloadN X675.here hx rfl (D d8_11) rfl (XS.iloadN X675.here hx rfl (D d8_12) rfl (XS.isub X675.here hx rfl (D d8_13) rfl (XS.ifYes X675.here hx rfl (pc0 := 14) (pc' := 38) rfl (D d8_14) rfl ((if0 _ _).trans (flt (by decide : ¬ ((0 : Int32) < (-6 : Int32)))).2.2.2) (by decide) (by decide) k)))))))))))) ?_
  exact Go.retV X675 hx hlk hret (D d8_38) (by decide) (by decide) (by rw [e675]; exact ⟨rfl, rfl, by simp⟩)
theorem ef_rm_getb_24_4_34 (m : MethodId) (so : Addr) (va : Addr) : entryFrame m #[(.ref so), (.ref va), (.int (24 : Int32)), (.int (0 : Int32))] 4 = mkF m 0 #[rv so, rv va, iv (24 : Int32), iv (0 : Int32)] [] := by first | (simp [entryFrame, mkF, argsToLocals, Value.category]; done) | rfl
set_option maxRecDepth 65536 in
set_option maxHeartbeats 40000000 in
theorem rm_getb_24_4_34 {l : Launch} {Z : State} {a0 : Array Value} {A : Nat → Addr} {KC : Nat → Cell} {IC : Nat → Int32} {VC : Nat → Value} (hw : ∀ d ∈ tables_1, d.before a0 Z = true) (G : own_Ctx Z A KC IC VC) (so : Addr) (va : Addr) (sv : Addr) (ks : ClassId) (ts : List Int32) (kv : ClassId) (bs : List Int32) (h0 : Heap) (O0 : Ext Z.heap h0) (prem0 : bs.length = 24) (prem1 : ts.length = 4) (prem2 : Exa Z h0 so "java/lang/String") (prem3 : Fld Z h0 so "java/lang/String" "value" "[B" (.ref sv)) (prem4 : Fld Z h0 so "java/lang/String" "coder" "B" (.int (0 : Int32))) (prem5 : Arv Z h0 sv ks .byte (4 : Int32) (ts.map Value.int) (.int (0 : Int32))) (prem6 : Arv Z h0 va kv .byte (34 : Int32) (bs.map Value.int) (.int (0 : Int32))) (prem7 : Z.heap.size ≤ va) :
    Ok l Z own_m25 jdk_42_method_147_code 4 none ({ frames := 1, cells := 0, slots := 0, locals := 18 } : Room) #[(.ref so), (.ref va), (.int (24 : Int32)), (.int (0 : Int32))] h0
      (fun v h L => v = none ∧ (Fr Z.heap.size L) ∧ (Keep h0 h [va]) ∧ (Arv Z h va kv .byte (34 : Int32) ((bs ++ ts).map Value.int) (.int (0 : Int32)))) := by
  refine Ok.mk pn26 ?_
  intro p e s m below meth c T0 hx hby hml hown hnm hret hlk hZ e0 X0
  refine Go.cast (ef_rm_getb_24_4_34 m so va) ?_
  have D := @hb _ _ hby
  have N0 := Fr.nil Z.heap.size
  have K0 : Keep h0 h0 [va] := Keep.refl _ _
  obtain ⟨T677, v677, L677, X677, q677, st677⟩ := callVi X0 hx hZ (y := own_m5) (z := own_m5) hown (own_w hw (i := 53) rfl) (own_w hw (i := 54) rfl) (notFace_of_selects (args := #[]) (mvT hZ (own_w hw (i := 56) rfl))) (own_w hw (i := 56) rfl) (own_w hw (i := 55) rfl) (own_w hw (i := 57) rfl) (own_w hw (i := 4) rfl) (by decide) (rm_coder hw G so  h0 O0 prem4) e0 (W := 0) (by decide) (by decide) (by decide) (by decide) prem2 (g := (mkF m 1 #[rv so, rv va, iv 24, iv 0] [(.ref so)])) rfl (by rw [hml]; rfl) (argsL := []) (rest := []) (lenOf pd7 rfl) rfl rfl (Nat.le_of_eq rfl) (D d11_1)
  obtain ⟨rfl, e677, rfl⟩ := q677
  have N677 := Fr.app N0 (Fr.nil _)
  obtain ⟨T679, X679, e679, st679⟩ := getF X677 hx hZ hown (host := "") (Or.inl (own_w hw (i := 52) rfl)) Via.refl e677 prem3 (g := (mkF m 9 #[rv so, rv va, iv 24, iv 0] [(.ref so)])) rfl rfl (D d11_9)
  obtain ⟨T680, X680, e680, st680⟩ := getF X679 hx hZ hown (host := "") (Or.inl (own_w hw (i := 52) rfl)) Via.refl e679 prem3 (g := (mkF m 18 #[rv so, rv va, iv 24, iv 0] [(.ref so), (.int 24), (.ref va), (.int 0), (.ref sv)])) rfl rfl (D d11_18)
  obtain ⟨cl681, Ar681, qk681, S681, Ng681, H681, G681⟩ := id prem5
  obtain ⟨T682, h682, L682, X682, e682, N682, Kq682, V682, st682⟩ := own_cpG X680 hx hZ hown (own_w hw (i := 83) rfl) (own_w hw (i := 86) rfl) (own_w hw (i := 84) rfl) (own_w hw (i := 85) rfl) e680 prem5 prem6 (dp := (24 : Int32)) (nn := (4 : Int32)) (by rw [prem0]; decide) (by decide) (by decide) (by rw [prem1]; decide) (by decide) (by decide) N677 prem7 (g := (mkF m 22 #[rv so, rv va, iv 24, iv 0] [(.int 4), (.int 24), (.ref va), (.int 0), (.ref sv)])) rfl (by rw [hml]; rfl) rfl (D d11_22) (by decide) (W := 0) (Nat.le_of_eq rfl) (by decide)
  have O683 := Old0.keep O0 Kq682 (allS prem7 all0)
  have K683 := Keep.trans K0 Kq682 (allS (Or.inl (List.mem_of_getElem? (i := 0) rfl)) all0)
  refine Go.of (T' := T682) (f' := (mkF m 43 #[rv so, rv va, iv 24, iv 0] [])) (fun _ k => XS.aloadN X0.here hx rfl (D d11_0) rfl rfl (st677 _ (XS.iloadN X677.here hx rfl (D d11_4) rfl (XS.icmpNo X677.here hx rfl (D d11_5) rfl (teq (by decide : (0 : Int32) = (0 : Int32))).2 (XS.aloadN X677.here hx rfl (D d11_8) rfl rfl (st679 _ (XS.iconst X679.here hx rfl (D d11_12) (XS.aloadN X679.here hx rfl (D d11_13) rfl rfl (XS.iloadN X679.here hx rfl (D d11_14) rfl (XS.iloadN X679.here hx rfl (D d11_15) rfl (XS.ishl X679.here hx rfl (D d11_16) rfl (XS.aloadN X679.here hx rfl (D d11_17) rfl rfl (st680 _ (X680.arraylength hx (by rw [e680]; exact Ar681.1) (State.isArrayOf_alike hZ.alike Ar681.2.1) (g := (mkF m 21 #[rv so, rv va, iv 24, iv 0] [(.ref sv), (.int 24), (.ref va), (.int 0), (.ref sv)])) rfl rfl (D d11_21) _ (by rw [len_of S681 Ng681]; exact (st682 _ (XS.goto X682.here hx rfl (pc0 := 25) (pc' := 43) rfl (D d11_25) (by decide) (by decide) k))))))))))))))))) ?_
  exact Go.retV X682 hx hlk hret (D d11_43) (by decide) (by decide) (by rw [e682]; exact ⟨rfl, N682, K683, V682⟩)
theorem ef_rm_put_24_4_34 (m : MethodId) (ob : Addr) (so : Addr) : entryFrame m #[(.ref ob), (.int (24 : Int32)), (.ref so)] 3 = mkF m 0 #[rv ob, iv (24 : Int32), rv so] [] := by first | (simp [entryFrame, mkF, argsToLocals, Value.category]; done) | rfl
set_option maxRecDepth 65536 in
set_option maxHeartbeats 40000000 in
theorem rm_put_24_4_34 {l : Launch} {Z : State} {a0 : Array Value} {A : Nat → Addr} {KC : Nat → Cell} {IC : Nat → Int32} {VC : Nat → Value} (hw : ∀ d ∈ tables_1, d.before a0 Z = true) (G : own_Ctx Z A KC IC VC) (ob : Addr) (so : Addr) (sv : Addr) (ks : ClassId) (ts : List Int32) (va : Addr) (kv : ClassId) (bs : List Int32) (h0 : Heap) (O0 : Ext Z.heap h0) (prem0 : bs.length = 24) (prem1 : ts.length = 4) (prem2 : Exa Z h0 ob "java/lang/StringBuilder") (prem3 : Fld Z h0 ob "java/lang/AbstractStringBuilder" "value" "[B" (.ref va)) (prem4 : Fld Z h0 ob "java/lang/AbstractStringBuilder" "coder" "B" (.int (0 : Int32))) (prem5 : Exa Z h0 so "java/lang/String") (prem6 : Fld Z h0 so "java/lang/String" "value" "[B" (.ref sv)) (prem7 : Fld Z h0 so "java/lang/String" "coder" "B" (.int (0 : Int32))) (prem8 : Arv Z h0 sv ks .byte (4 : Int32) (ts.map Value.int) (.int (0 : Int32))) (prem9 : Arv Z h0 va kv .byte (34 : Int32) (bs.map Value.int) (.int (0 : Int32))) (prem10 : Z.heap.size ≤ va) :
    Ok l Z own_m29 jdk_68_method_73_code 3 none ({ frames := 2, cells := 0, slots := 0, locals := 33 } : Room) #[(.ref ob), (.int (24 : Int32)), (.ref so)] h0
      (fun v h L => v = none ∧ (Fr Z.heap.size L) ∧ (Keep h0 h [va]) ∧ (Arv Z h va kv .byte (34 : Int32) ((bs ++ ts).map Value.int) (.int (0 : Int32)))) := by
  refine Ok.mk pn30 ?_
  intro p e s m below meth c T0 hx hby hml hown hnm hret hlk hZ e0 X0
  refine Go.cast (ef_rm_put_24_4_34 m ob so) ?_
  have D := @hb _ _ hby
  have N0 := Fr.nil Z.heap.size
  have K0 : Keep h0 h0 [va] := Keep.refl _ _
  obtain ⟨T684, v684, L684, X684, q684, st684⟩ := callPr X0 hx hZ (y := own_m10) hown (own_w hw (i := 72) rfl) (own_w hw (i := 73) rfl) (own_selfsel (own_w hw (i := 73) rfl) (own_w hw (i := 75) rfl) (own_w hw (i := 74) rfl) (by decide)) (own_w hw (i := 74) rfl) (own_w hw (i := 26) rfl) (own_w hw (i := 76) rfl) (by decide) (rm_infl hw G ob so  h0 O0 prem4 prem5 prem7) e0 (W := 0) (by decide) (by decide) (by decide) (by decide) prem2 (g := (mkF m 2 #[rv ob, iv 24, rv so] [(.ref so), (.ref ob)])) rfl (by rw [hml]; rfl) (a := ob) (argsL := [(.ref so)]) (rest := []) (lenOf pd27 rfl) rfl rfl (Nat.le_of_eq rfl) (D d9_2)
  obtain ⟨rfl, e684, rfl⟩ := q684
  have N684 := Fr.app N0 (Fr.nil _)
  obtain ⟨T685, X685, e685, st685⟩ := getF X684 hx hZ hown (host := "") (Or.inl (own_w hw (i := 32) rfl)) Via.refl e684 prem3 (g := (mkF m 7 #[rv ob, iv 24, rv so] [(.ref ob), (.ref so)])) rfl rfl (D d9_7)
  obtain ⟨T686, X686, e686, st686⟩ := getF X685 hx hZ hown (host := "") (Or.inl (own_w hw (i := 34) rfl)) Via.refl e685 prem4 (g := (mkF m 12 #[rv ob, iv 24, rv so] [(.ref ob), (.int 24), (.ref va), (.ref so)])) rfl rfl (D d9_12)
  obtain ⟨T687, v687, L687, X687, q687, st687⟩ := callVi X686 hx hZ (y := own_m25) (z := own_m25) hown (own_w hw (i := 78) rfl) (own_w hw (i := 79) rfl) (notFace_of_selects (args := #[]) (mvT hZ (own_w hw (i := 81) rfl))) (own_w hw (i := 81) rfl) (own_w hw (i := 80) rfl) (own_w hw (i := 82) rfl) (own_w hw (i := 4) rfl) (by decide) (rm_getb_24_4_34 hw G so va sv ks ts kv bs h0 O0 (prem0) (prem1) prem5 prem6 prem7 prem8 prem9 prem10) e686 (W := 0) (by decide) (by decide) (by decide) (by decide) prem5 (g := (mkF m 15 #[rv ob, iv 24, rv so] [(.int 0), (.int 24), (.ref va), (.ref so)])) rfl (by rw [hml]; rfl) (argsL := [(.ref va), (.int 24), (.int 0)]) (rest := []) (lenOf pd28 rfl) rfl rfl (Nat.le_of_eq rfl) (D d9_15)
  obtain ⟨rfl, N687q, K687q, p687_0⟩ := q687
  have N687 := Fr.app N684 N687q
  have O688 := Old0.keep O0 K687q (allS prem10 all0)
  have K688 := Keep.trans K0 K687q (allS (Or.inl (List.mem_of_getElem? (i := 0) rfl)) all0)
  refine Go.of (T' := T687) (f' := (mkF m 18 #[rv ob, iv 24, rv so] [])) (fun _ k => XS.aloadN X0.here hx rfl (D d9_0) rfl rfl (XS.aloadN X0.here hx rfl (D d9_1) rfl rfl (st684 _ (XS.aloadN X684.here hx rfl (D d9_5) rfl rfl (XS.aloadN X684.here hx rfl (D d9_6) rfl rfl (st685 _ (XS.iloadN X685.here hx rfl (D d9_10) rfl (XS.aloadN X685.here hx rfl (D d9_11) rfl rfl (st686 _ (st687 _ k)))))))))) ?_
  exact Go.retV X687 hx hlk hret (D d9_18) (by decide) (by decide) ⟨rfl, N687, K688, p687_0⟩
theorem ef_rm_aba_24_4_34 (m : MethodId) (ob : Addr) (so : Addr) : entryFrame m #[(.ref ob), (.ref so)] 3 = mkF m 0 #[rv ob, rv so, .unset] [] := by first | (simp [entryFrame, mkF, argsToLocals, Value.category]; done) | rfl
set_option maxRecDepth 65536 in
set_option maxHeartbeats 40000000 in
theorem rm_aba_24_4_34 {l : Launch} {Z : State} {a0 : Array Value} {A : Nat → Addr} {KC : Nat → Cell} {IC : Nat → Int32} {VC : Nat → Value} (hw : ∀ d ∈ tables_1, d.before a0 Z = true) (G : own_Ctx Z A KC IC VC) (ob : Addr) (so : Addr) (sv : Addr) (ks : ClassId) (ts : List Int32) (va : Addr) (kv : ClassId) (bs : List Int32) (h0 : Heap) (O0 : Ext Z.heap h0) (prem0 : bs.length = 24) (prem1 : ts.length = 4) (prem2 : Exa Z h0 ob "java/lang/StringBuilder") (prem3 : Fld Z h0 ob "java/lang/AbstractStringBuilder" "value" "[B" (.ref va)) (prem4 : Fld Z h0 ob "java/lang/AbstractStringBuilder" "coder" "B" (.int (0 : Int32))) (prem5 : Fld Z h0 ob "java/lang/AbstractStringBuilder" "count" "I" (.int (24 : Int32))) (prem6 : Exa Z h0 so "java/lang/String") (prem7 : Fld Z h0 so "java/lang/String" "value" "[B" (.ref sv)) (prem8 : Fld Z h0 so "java/lang/String" "coder" "B" (.int (0 : Int32))) (prem9 : Arv Z h0 sv ks .byte (4 : Int32) (ts.map Value.int) (.int (0 : Int32))) (prem10 : Arv Z h0 va kv .byte (34 : Int32) (bs.map Value.int) (.int (0 : Int32))) (prem11 : Z.heap.size ≤ ob) (prem12 : Z.heap.size ≤ va) (prem13 : ob ≠ va) (prem14 : so ≠ ob) (prem15 : sv ≠ ob) (prem16 : so ≠ va) (prem17 : sv ≠ va) :
    Ok l Z own_m33 jdk_68_method_22_code 3 (some (.object "java/lang/AbstractStringBuilder")) ({ frames := 3, cells := 0, slots := 0, locals := 47 } : Room) #[(.ref ob), (.ref so)] h0
      (fun v h L => v = some (.ref ob) ∧ (Fr Z.heap.size L) ∧ (Keep h0 h [ob, va]) ∧ (Fld Z h ob "java/lang/AbstractStringBuilder" "value" "[B" (.ref va)) ∧ (Fld Z h ob "java/lang/AbstractStringBuilder" "coder" "B" (.int (0 : Int32))) ∧ (Fld Z h ob "java/lang/AbstractStringBuilder" "count" "I" (.int (28 : Int32))) ∧ (Arv Z h va kv .byte (34 : Int32) ((bs ++ ts).map Value.int) (.int (0 : Int32)))) := by
  refine Ok.mk pn34 ?_
  intro p e s m below meth c T0 hx hby hml hown hnm hret hlk hZ e0 X0
  refine Go.cast (ef_rm_aba_24_4_34 m ob so) ?_
  have D := @hb _ _ hby
  have N0 := Fr.nil Z.heap.size
  have K0 : Keep h0 h0 [ob, va] := Keep.refl _ _
  obtain ⟨T689, v689, L689, X689, q689, st689⟩ := callVi X0 hx hZ (y := own_m8) (z := own_m8) hown (own_w hw (i := 47) rfl) (own_w hw (i := 48) rfl) (notFace_of_selects (args := #[]) (mvT hZ (own_w hw (i := 50) rfl))) (own_w hw (i := 50) rfl) (own_w hw (i := 49) rfl) (own_w hw (i := 51) rfl) (own_w hw (i := 4) rfl) (by decide) (rm_len hw G so sv ks ((4 : Int32)) ts h0 O0 prem6 prem7 prem8 prem9 (by decide)) e0 (W := 0) (by decide) (by decide) (by decide) (by decide) prem6 (g := (mkF m 10 #[rv ob, rv so, .unset] [(.ref so)])) rfl (by rw [hml]; rfl) (argsL := []) (rest := []) (lenOf pd31 rfl) rfl rfl (Nat.le_of_eq rfl) (D d5_10)
  obtain ⟨rfl, e689, rfl⟩ := q689
  have N689 := Fr.app N0 (Fr.nil _)
  obtain ⟨T690, X690, e690, st690⟩ := getF X689 hx hZ hown (host := "") (Or.inl (own_w hw (i := 60) rfl)) Via.refl e689 prem5 (g := (mkF m 16 #[rv ob, rv so, iv 4] [(.ref ob), (.ref ob)])) rfl rfl (D d5_16)
  obtain ⟨T691, v691, L691, X691, q691, st691⟩ := callPr X690 hx hZ (y := own_m23) hown (own_w hw (i := 62) rfl) (own_w hw (i := 63) rfl) (own_selfsel (own_w hw (i := 63) rfl) (own_w hw (i := 65) rfl) (own_w hw (i := 64) rfl) (by decide)) (own_w hw (i := 64) rfl) (own_w hw (i := 26) rfl) (own_w hw (i := 66) rfl) (by decide) (rm_ecf_28_34 hw G ob va kv bs h0 O0 prem2 prem3 prem4 prem10) e690 (W := 0) (by decide) (by decide) (by decide) (by decide) prem2 (g := (mkF m 21 #[rv ob, rv so, iv 4] [(.int 28), (.ref ob)])) rfl (by rw [hml]; rfl) (a := ob) (argsL := [(.int 28)]) (rest := []) (lenOf pd2 rfl) rfl rfl (Nat.le_of_eq rfl) (D d5_21)
  obtain ⟨rfl, e691, rfl⟩ := q691
  have N691 := Fr.app N689 (Fr.nil _)
  obtain ⟨T692, X692, e692, st692⟩ := getF X691 hx hZ hown (host := "") (Or.inl (own_w hw (i := 60) rfl)) Via.refl e691 prem5 (g := (mkF m 26 #[rv ob, rv so, iv 4] [(.ref ob), (.ref ob)])) rfl rfl (D d5_26)
  obtain ⟨T693, v693, L693, X693, q693, st693⟩ := callPr X692 hx hZ (y := own_m29) hown (own_w hw (i := 67) rfl) (own_w hw (i := 68) rfl) (own_selfsel (own_w hw (i := 68) rfl) (own_w hw (i := 70) rfl) (own_w hw (i := 69) rfl) (by decide)) (own_w hw (i := 69) rfl) (own_w hw (i := 26) rfl) (own_w hw (i := 71) rfl) (by decide) (rm_put_24_4_34 hw G ob so sv ks ts va kv bs h0 O0 (prem0) (prem1) prem2 prem3 prem4 prem6 prem7 prem8 prem9 prem10 prem12) e692 (W := 0) (by decide) (by decide) (by decide) (by decide) prem2 (g := (mkF m 30 #[rv ob, rv so, iv 4] [(.ref so), (.int 24), (.ref ob)])) rfl (by rw [hml]; rfl) (a := ob) (argsL := [(.int 24), (.ref so)]) (rest := []) (lenOf pd32 rfl) rfl rfl (Nat.le_of_eq rfl) (D d5_30)
  obtain ⟨rfl, N693q, K693q, p693_0⟩ := q693
  have N693 := Fr.app N691 N693q
  have O694 := Old0.keep O0 K693q (allS prem12 all0)
  have K694 := Keep.trans K0 K693q (allS (Or.inl (List.mem_of_getElem? (i := 1) rfl)) all0)
  have f696 : Fld Z T693.heap ob "java/lang/AbstractStringBuilder" "count" "I" (.int 24) := (Fld.keep prem5 K693q (ninS prem13 nin0))
  obtain ⟨T695, X695, e695, st695⟩ := getF X693 hx hZ hown (host := "") (Or.inl (own_w hw (i := 60) rfl)) Via.refl rfl f696 (g := (mkF m 35 #[rv ob, rv so, iv 4] [(.ref ob), (.ref ob)])) rfl rfl (D d5_35)
  have f698 : Exa Z T693.heap ob "java/lang/StringBuilder" := (Exa.keep prem2 K693q)
  obtain ⟨T697, h697, X697, e697, W697, st697⟩ := putF X695 hx hZ hown (host := "") (Or.inl (own_w hw (i := 60) rfl)) Via.refl e695 f696 f698 (Or.inl (own_w hw (i := 61) rfl)) (own_w hw (i := 17) rfl) (ty := .int) (by decide) rfl rfl (g := (mkF m 40 #[rv ob, rv so, iv 4] [(.int 28), (.ref ob)])) rfl rfl (D d5_40)
  have O699 := Old0.wr O694 W697 prem11
  have K699 := Keep.wr K694 W697 (Or.inl (List.mem_of_getElem? (i := 0) rfl))
  have N697 := Fr.snoc X697 N693 prem11
  have f697 : Fld Z h697 ob "java/lang/AbstractStringBuilder" "count" "I" (.int 28) := Fld.same W697 f696
  have f700 : Fld Z h697 ob "java/lang/AbstractStringBuilder" "value" "[B" (.ref va) := (Fld.other W697 (Fld.keep prem3 K693q (ninS prem13 nin0)) (Or.inr (slot_ne (Or.inl (own_w hw (i := 33) rfl)) (Or.inl (own_w hw (i := 61) rfl)) (by decide) (t := (.array .byte)) (t' := .int) (by decide) (by decide))))
  have f701 : Fld Z h697 ob "java/lang/AbstractStringBuilder" "coder" "B" (.int 0) := (Fld.other W697 (Fld.keep prem4 K693q (ninS prem13 nin0)) (Or.inr (slot_ne (Or.inl (own_w hw (i := 35) rfl)) (Or.inl (own_w hw (i := 61) rfl)) (by decide) (t := .byte) (t' := .int) (by decide) (by decide))))
  have f702 : Arv Z h697 va kv .byte (34 : Int32) ((bs ++ ts).map Value.int) (.int 0) := (Arv.other p693_0 W697 (Ne.symm prem13))
  refine Go.of (T' := T697) (f' := (mkF m 44 #[rv ob, rv so, iv 4] [(.ref ob)])) (fun _ k => XS.aloadN X0.here hx rfl (D d5_0) rfl rfl (XS.ifnonnullYes X0.here hx rfl (pc0 := 1) (pc' := 9) rfl (D d5_1) rfl (by decide) (by decide) (XS.aloadN X0.here hx rfl (D d5_9) rfl rfl (st689 _ (XS.istoreN X689.here hx rfl (D d5_13) rfl (l' := #[rv ob, rv so, iv 4]) rfl (XS.aloadN X689.here hx rfl (D d5_14) rfl rfl (XS.aloadN X689.here hx rfl (D d5_15) rfl rfl (st690 _ (XS.iloadN X690.here hx rfl (D d5_19) rfl (XS.iadd X690.here hx rfl (D d5_20) rfl (st691 _ (XS.aloadN X691.here hx rfl (D d5_24) rfl rfl (XS.aloadN X691.here hx rfl (D d5_25) rfl rfl (st692 _ (XS.aloadN X692.here hx rfl (D d5_29) rfl rfl (st693 _ (XS.aloadN X693.here hx rfl (D d5_33) rfl rfl (XS.dup X693.here hx rfl (D d5_34) rfl rfl (st695 _ (XS.iloadN X695.here hx rfl (D d5_38) rfl (XS.iadd X695.here hx rfl (D d5_39) rfl (st697 _ (XS.aloadN X697.here hx rfl (D d5_43) rfl rfl k))))))))))))))))))))))) ?_
  exact Go.retA X697 hx hlk hret rfl rfl (D d5_44) (by decide) (by decide) (by rw [e697]; exact ⟨rfl, N697, K699, f700, f701, f697, f702⟩)
theorem ef_rm_sba_24_4_34 (m : MethodId) (ob : Addr) (so : Addr) : entryFrame m #[(.ref ob), (.ref so)] 2 = mkF m 0 #[rv ob, rv so] [] := by first | (simp [entryFrame, mkF, argsToLocals, Value.category]; done) | rfl
set_option maxRecDepth 65536 in
set_option maxHeartbeats 40000000 in
theorem rm_sba_24_4_34 {l : Launch} {Z : State} {a0 : Array Value} {A : Nat → Addr} {KC : Nat → Cell} {IC : Nat → Int32} {VC : Nat → Value} (hw : ∀ d ∈ tables_1, d.before a0 Z = true) (G : own_Ctx Z A KC IC VC) (ob : Addr) (so : Addr) (sv : Addr) (ks : ClassId) (ts : List Int32) (va : Addr) (kv : ClassId) (bs : List Int32) (h0 : Heap) (O0 : Ext Z.heap h0) (prem0 : bs.length = 24) (prem1 : ts.length = 4) (prem2 : Exa Z h0 ob "java/lang/StringBuilder") (prem3 : Fld Z h0 ob "java/lang/AbstractStringBuilder" "value" "[B" (.ref va)) (prem4 : Fld Z h0 ob "java/lang/AbstractStringBuilder" "coder" "B" (.int (0 : Int32))) (prem5 : Fld Z h0 ob "java/lang/AbstractStringBuilder" "count" "I" (.int (24 : Int32))) (prem6 : Exa Z h0 so "java/lang/String") (prem7 : Fld Z h0 so "java/lang/String" "value" "[B" (.ref sv)) (prem8 : Fld Z h0 so "java/lang/String" "coder" "B" (.int (0 : Int32))) (prem9 : Arv Z h0 sv ks .byte (4 : Int32) (ts.map Value.int) (.int (0 : Int32))) (prem10 : Arv Z h0 va kv .byte (34 : Int32) (bs.map Value.int) (.int (0 : Int32))) (prem11 : Z.heap.size ≤ ob) (prem12 : Z.heap.size ≤ va) (prem13 : ob ≠ va) (prem14 : so ≠ ob) (prem15 : sv ≠ ob) (prem16 : so ≠ va) (prem17 : sv ≠ va) :
    Ok l Z own_m36 jdk_67_method_7_code 2 (some (.object "java/lang/StringBuilder")) ({ frames := 4, cells := 0, slots := 0, locals := 61 } : Room) #[(.ref ob), (.ref so)] h0
      (fun v h L => v = some (.ref ob) ∧ (Fr Z.heap.size L) ∧ (Keep h0 h [ob, va]) ∧ (Fld Z h ob "java/lang/AbstractStringBuilder" "value" "[B" (.ref va)) ∧ (Fld Z h ob "java/lang/AbstractStringBuilder" "coder" "B" (.int (0 : Int32))) ∧ (Fld Z h ob "java/lang/AbstractStringBuilder" "count" "I" (.int (28 : Int32))) ∧ (Arv Z h va kv .byte (34 : Int32) ((bs ++ ts).map Value.int) (.int (0 : Int32)))) := by
  refine Ok.mk pn37 ?_
  intro p e s m below meth c T0 hx hby hml hown hnm hret hlk hZ e0 X0
  refine Go.cast (ef_rm_sba_24_4_34 m ob so) ?_
  have D := @hb _ _ hby
  have N0 := Fr.nil Z.heap.size
  have K0 : Keep h0 h0 [ob, va] := Keep.refl _ _
  obtain ⟨T703, v703, L703, X703, q703, st703⟩ := callSu X0 hx hZ (y := own_m33) hown (own_w hw (i := 42) rfl) (nf_mate (own_w hw (i := 65) rfl) rfl) (own_w hw (i := 43) rfl) (own_w hw (i := 44) rfl) (by decide) (own_w hw (i := 46) rfl) (own_w hw (i := 26) rfl) (by decide) (rm_aba_24_4_34 hw G ob so sv ks ts va kv bs h0 O0 (prem0) (prem1) prem2 prem3 prem4 prem5 prem6 prem7 prem8 prem9 prem10 prem11 prem12 prem13 prem14 prem15 prem16 prem17) e0 (W := 0) (by decide) (by decide) (by decide) (by decide) (Ins.self prem2) (g := (mkF m 2 #[rv ob, rv so] [(.ref so), (.ref ob)])) rfl (by rw [hml]; rfl) (argsL := [(.ref so)]) (rest := []) (lenOf pd35 rfl) rfl rfl (Nat.le_of_eq rfl) (D d4_2)
  obtain ⟨rfl, N703q, K703q, p703_0, p703_1, p703_2, p703_3⟩ := q703
  have N703 := Fr.app N0 N703q
  have O704 := Old0.keep O0 K703q (allS prem11 (allS prem12 all0))
  have K704 := Keep.trans K0 K703q (allS (Or.inl (List.mem_of_getElem? (i := 0) rfl)) (allS (Or.inl (List.mem_of_getElem? (i := 1) rfl)) all0))
  refine Go.of (T' := T703) (f' := (mkF m 7 #[rv ob, rv so] [(.ref ob)])) (fun _ k => XS.aloadN X0.here hx rfl (D d4_0) rfl rfl (XS.aloadN X0.here hx rfl (D d4_1) rfl rfl (st703 _ (XT.pop X703.here hx rfl (D d4_5) rfl rfl (XS.aloadN X703.here hx rfl (D d4_6) rfl rfl k))))) ?_
  exact Go.retA X703 hx hlk hret rfl rfl (D d4_7) (by decide) (by decide) ⟨rfl, N703, K704, p703_0, p703_1, p703_2, p703_3⟩
theorem ef_rm_ecf_30_34 (m : MethodId) (ob : Addr) : entryFrame m #[(.ref ob), (.int (30 : Int32))] 3 = mkF m 0 #[rv ob, iv (30 : Int32), .unset] [] := by first | (simp [entryFrame, mkF, argsToLocals, Value.category]; done) | rfl
set_option maxRecDepth 65536 in
set_option maxHeartbeats 40000000 in
theorem rm_ecf_30_34 {l : Launch} {Z : State} {a0 : Array Value} {A : Nat → Addr} {KC : Nat → Cell} {IC : Nat → Int32} {VC : Nat → Value} (hw : ∀ d ∈ tables_1, d.before a0 Z = true) (G : own_Ctx Z A KC IC VC) (ob : Addr) (va : Addr) (kv : ClassId) (bs : List Int32) (h0 : Heap) (O0 : Ext Z.heap h0) (prem0 : Exa Z h0 ob "java/lang/StringBuilder") (prem1 : Fld Z h0 ob "java/lang/AbstractStringBuilder" "value" "[B" (.ref va)) (prem2 : Fld Z h0 ob "java/lang/AbstractStringBuilder" "coder" "B" (.int (0 : Int32))) (prem3 : Arv Z h0 va kv .byte (34 : Int32) (bs.map Value.int) (.int (0 : Int32))) :
    Ok l Z own_m23 jdk_68_method_9_code 3 none ({ frames := 0, cells := 0, slots := 0, locals := 0 } : Room) #[(.ref ob), (.int (30 : Int32))] h0
      (fun v h L => v = none ∧ (h = h0) ∧ (L = [])) := by
  refine Ok.mk pn24 ?_
  intro p e s m below meth c T0 hx hby hml hown hnm hret hlk hZ e0 X0
  refine Go.cast (ef_rm_ecf_30_34 m ob) ?_
  have D := @hb _ _ hby
  have N0 := Fr.nil Z.heap.size
  have K0 : Keep h0 h0 [] := Keep.refl _ _
  obtain ⟨T705, X705, e705, st705⟩ := getF X0 hx hZ hown (host := "") (Or.inl (own_w hw (i := 32) rfl)) Via.refl e0 prem1 (g := (mkF m 1 #[rv ob, iv 30, .unset] [(.ref ob)])) rfl rfl (D d8_1)
  obtain ⟨cl706, Ar706, qk706, S706, Ng706, H706, G706⟩ := id prem3
  obtain ⟨T707, X707, e707, st707⟩ := getF X705 hx hZ hown (host := "") (Or.inl (own_w hw (i := 34) rfl)) Via.refl e705 prem2 (g := (mkF m 6 #[rv ob, iv 30, .unset] [(.ref ob), (.int 34)])) rfl rfl (D d8_6)
  refine Go.of (T' := T707) (f' := (mkF m 38 #[rv ob, iv 30, iv 34] [])) (fun _ k => XS.aloadN X0.here hx rfl (D d8_0) rfl rfl (st705 _ (X705.arraylength hx (by rw [e705]; exact Ar706.1) (State.isArrayOf_alike hZ.alike Ar706.2.1) (g := (mkF m 4 #[rv ob, iv 30, .unset] [(.ref va)])) rfl rfl (D d8_4) _ (by rw [len_of S706 Ng706]; exact (XS.aloadN X705.here hx rfl (D d8_5) rfl rfl (st707 _ (XS.ishr X707.here hx rfl (D d8_9) rfl (XS.istoreN X707.here hx rfl (D d8_10) rfl (l' := #[rv ob, iv 30, iv 34]) rfl (XS.iloadN X707.here hx rfl (D d8_11) rfl (XS.iloadN X707.here hx rfl (D d8_12) rfl (XS.isub X707.here hx rfl (D d8_13) rfl (XS.ifYes X707.here hx rfl (pc0 := 14) (pc' := 38) rfl (D d8_14) rfl ((if0 _ _).trans (flt (by decide : ¬ ((0 : Int32) < (-4 : Int32)))).2.2.2) (by decide) (by decide) k)))))))))))) ?_
  exact Go.retV X707 hx hlk hret (D d8_38) (by decide) (by decide) (by rw [e707]; exact ⟨rfl, rfl, by simp⟩)
theorem ef_rm_gch_64_28_34 (m : MethodId) (va : Addr) : entryFrame m #[(.int (64 : Int32)), (.int (30 : Int32)), (.ref va)] 7 = mkF m 0 #[iv (64 : Int32), iv (30 : Int32), rv va, .unset, .unset, .unset, .unset] [] := by first | (simp [entryFrame, mkF, argsToLocals, Value.category]; done) | rfl
set_option maxRecDepth 65536 in
set_option maxHeartbeats 40000000 in
theorem rm_gch_64_28_34 {l : Launch} {Z : State} {a0 : Array Value} {A : Nat → Addr} {KC : Nat → Cell} {IC : Nat → Int32} {VC : Nat → Value} (hw : ∀ d ∈ tables_1, d.before a0 Z = true) (G : own_Ctx Z A KC IC VC) (va : Addr) (kv : ClassId) (bs : List Int32) (h0 : Heap) (O0 : Ext Z.heap h0) (prem0 : bs.length = 28) (prem1 : Arv Z h0 va kv .byte (34 : Int32) (bs.map Value.int) (.int (0 : Int32))) (prem2 : Z.heap.size ≤ va) :
    Ok l Z own_m50 jdk_33_method_12_code 7 (some .int) ({ frames := 0, cells := 0, slots := 0, locals := 0 } : Room) #[(.int (64 : Int32)), (.int (30 : Int32)), (.ref va)] h0
      (fun v h L => v = some (.int (28 : Int32)) ∧ (Fr Z.heap.size L) ∧ (Keep h0 h [va]) ∧ (Arv Z h va kv .byte (34 : Int32) ((bs ++ [(54 : Int32), (52 : Int32)]).map Value.int) (.int (0 : Int32)))) := by
  refine Ok.mk pn51 ?_
  intro p e s m below meth c T0 hx hby hml hown hnm hret hlk hZ e0 X0
  refine Go.cast (ef_rm_gch_64_28_34 m va) ?_
  obtain ⟨-, -, -, -, -, -, -, -, -, -, -, -, -, -, -, -, -, -, -, -, S_DigitOnes, -, S_DigitTens, -, -, -, AD_s_DigitOnes, ZD_s_DigitOnes, -, -, GD_s_DigitOnes_64, AD_s_DigitTens, ZD_s_DigitTens, -, GD_s_DigitTens_64⟩ := id G
  have D := @hb _ _ hby
  have N0 := Fr.nil Z.heap.size
  have K0 : Keep h0 h0 [va] := Keep.refl _ _
  have fp : Arv Z h0 va kv .byte (34 : Int32) ((bs ++ [(0 : Int32), (0 : Int32)]).map Value.int) (.int 0) := Arv.pad prem1 (own_padZ bs 2)
  obtain ⟨T712, X712, e712, st712⟩ := getS2 X0 hx hZ hown (host := "") (Or.inl (own_w hw (i := 136) rfl)) Via.refl e0 (Sta.ext O0 S_DigitOnes) (g := (mkF m 78 #[iv (-64 : Int32), iv 30, rv va, .unset, .unset, iv 29, iv 0] [(.int 29), (.ref va)])) rfl (D d21_78)
  have A713 := Arr.ext O0 AD_s_DigitOnes
  have hin713 : ¬ ((64 : Int32) < 0 ∨ ((KC 2)).slots.size ≤ ((64 : Int32)).toNatClampNeg) := by rw [ZD_s_DigitOnes]; decide
  obtain ⟨cl714, Ar714, qk714, S714, Ng714, H714, G714⟩ := id fp
  obtain ⟨T714, h714, X714, e714, W714, st714⟩ := stB X712 hx hZ e712 Ar714 (j := (29 : Int32)) (inb_of S714 ⟨by decide, by decide⟩) (g := (mkF m 84 #[iv (-64 : Int32), iv 30, rv va, .unset, .unset, iv 29, iv 0] [(.int 52), (.int 29), (.ref va)])) rfl rfl (D d21_84)
  have O715 := Old0.wr O0 W714 prem2
  have K715 := Keep.wr K0 W714 (Or.inl (List.mem_of_getElem? (i := 0) rfl))
  have f714 : Arv Z h714 va kv .byte (34 : Int32) (((bs ++ [(0 : Int32), (0 : Int32)]).map Value.int).set 29 (.int 52)) (.int 0) := Arv.set Ar714 qk714 S714 Ng714 H714 G714 (v := (.int 52)) (by decide) W714 29 rfl (by simp [prem0])
  have N714 := Fr.snoc X714 N0 prem2
  refine Go.of (T' := T714) (f' := (mkF m 88 #[iv (-64 : Int32), iv 30, rv va, .unset, .unset, iv 29, iv 0] [(.int (-9 : Int32)), (.int (-64 : Int32))])) (fun _ k => XS.iloadN X0.here hx rfl (D d21_0) rfl (XS.istore X0.here hx rfl (D d21_1) rfl (l' := #[iv 64, iv 30, rv va, .unset, .unset, iv 30, .unset]) rfl (XS.iloadN X0.here hx rfl (D d21_3) rfl (XS.ifYes X0.here hx rfl (pc0 := 4) (pc' := 11) rfl (D d21_4) rfl ((if0 _ _).trans (flt (by decide : ¬ ((64 : Int32) < (0 : Int32)))).2.1) (by decide) (by decide) (XS.iconst X0.here hx rfl (D d21_11) (XS.istore X0.here hx rfl (D d21_12) rfl (l' := #[iv 64, iv 30, rv va, .unset, .unset, iv 30, iv 0]) rfl (XS.iload X0.here hx rfl (D d21_14) rfl (XS.ifNo X0.here hx rfl (D d21_16) rfl ((if0 _ _).trans (teq (by decide : (0 : Int32) = (0 : Int32))).2) (XS.iloadN X0.here hx rfl (D d21_19) rfl (XS.ineg X0.here hx rfl (D d21_20) rfl (XS.istoreN X0.here hx rfl (D d21_21) rfl (l' := #[iv (-64 : Int32), iv 30, rv va, .unset, .unset, iv 30, iv 0]) rfl (XS.iloadN X0.here hx rfl (D d21_22) rfl (XS.bipush X0.here hx rfl (D d21_23) (XS.icmpYes X0.here hx rfl (pc0 := 25) (pc' := 72) rfl (D d21_25) rfl (tlt (by decide : (-100 : Int32) < (-64 : Int32))).2.2.1 (by decide) (by decide) (XS.aloadN X0.here hx rfl (D d21_72) rfl rfl (XS.iinc X0.here hx rfl (D d21_73) rfl (l' := #[iv (-64 : Int32), iv 30, rv va, .unset, .unset, iv 29, iv 0]) rfl (XS.iload X0.here hx rfl (D d21_76) rfl (st712 _ (XS.iloadN X712.here hx rfl (D d21_81) rfl (XS.ineg X712.here hx rfl (D d21_82) rfl (X712.baloadBytes hx (j := (64 : Int32)) (v := (.int 52)) (by rw [e712]; exact A713.1) (State.isArrayOf_alike hZ.alike A713.2.1) A713.2.2 hin713 GD_s_DigitOnes_64 (g := (mkF m 83 #[iv (-64 : Int32), iv 30, rv va, .unset, .unset, iv 29, iv 0] [(.int 64), (.ref (A 6)), (.int 29), (.ref va)])) rfl rfl (D d21_83) _ (st714 _ (XS.iloadN X714.here hx rfl (D d21_85) rfl (XS.bipush X714.here hx rfl (D d21_86) k)))))))))))))))))))))))) ?_
  obtain ⟨T717, X717, e717, st717⟩ := getS2 X714 hx hZ hown (host := "") (Or.inl (own_w hw (i := 140) rfl)) Via.refl e714 (Sta.ext O715 S_DigitTens) (g := (mkF m 97 #[iv (-64 : Int32), iv 30, rv va, .unset, .unset, iv 28, iv 0] [(.int 28), (.ref va)])) rfl (D d21_97)
  have A718 := Arr.ext O715 AD_s_DigitTens
  have hin718 : ¬ ((64 : Int32) < 0 ∨ ((KC 3)).slots.size ≤ ((64 : Int32)).toNatClampNeg) := by rw [ZD_s_DigitTens]; decide
  obtain ⟨cl719, Ar719, qk719, S719, Ng719, H719, G719⟩ := id f714
  obtain ⟨T719, h719, X719, e719, W719, st719⟩ := stB X717 hx hZ e717 Ar719 (j := (28 : Int32)) (inb_of S719 ⟨by decide, by decide⟩) (g := (mkF m 103 #[iv (-64 : Int32), iv 30, rv va, .unset, .unset, iv 28, iv 0] [(.int 54), (.int 28), (.ref va)])) rfl rfl (D d21_103)
  have O720 := Old0.wr O715 W719 prem2
  have K720 := Keep.wr K715 W719 (Or.inl (List.mem_of_getElem? (i := 0) rfl))
  have f719 : Arv Z h719 va kv .byte (34 : Int32) ((((bs ++ [(0 : Int32), (0 : Int32)]).map Value.int).set 29 (.int 52)).set 28 (.int 54)) (.int 0) := Arv.set Ar719 qk719 S719 Ng719 H719 G719 (v := (.int 54)) (by decide) W719 28 rfl (by simp [prem0])
  have N719 := Fr.snoc X719 N714 prem2
  have fe721 : Arv Z h719 va kv .byte (34 : Int32) ((bs ++ [(54 : Int32), (52 : Int32)]).map Value.int) (.int 0) := own_set2 bs 28 prem0 (54 : Int32) (52 : Int32) ▸ f719
  refine Go.of (T' := T719) (f' := (mkF m 120 #[iv (-64 : Int32), iv 30, rv va, .unset, .unset, iv 28, iv 0] [(.int 28)])) (fun _ k => XS.icmpNo X714.here hx rfl (D d21_88) rfl (tlt (by decide : (-64 : Int32) < (-9 : Int32))).2.1 (XS.aloadN X714.here hx rfl (D d21_91) rfl rfl (XS.iinc X714.here hx rfl (D d21_92) rfl (l' := #[iv (-64 : Int32), iv 30, rv va, .unset, .unset, iv 28, iv 0]) rfl (XS.iload X714.here hx rfl (D d21_95) rfl (st717 _ (XS.iloadN X717.here hx rfl (D d21_100) rfl (XS.ineg X717.here hx rfl (D d21_101) rfl (X717.baloadBytes hx (j := (64 : Int32)) (v := (.int 54)) (by rw [e717]; exact A718.1) (State.isArrayOf_alike hZ.alike A718.2.1) A718.2.2 hin718 GD_s_DigitTens_64 (g := (mkF m 102 #[iv (-64 : Int32), iv 30, rv va, .unset, .unset, iv 28, iv 0] [(.int 64), (.ref (A 7)), (.int 28), (.ref va)])) rfl rfl (D d21_102) _ (st719 _ (XS.iload X719.here hx rfl (D d21_104) rfl (XS.ifYes X719.here hx rfl (pc0 := 106) (pc' := 118) rfl (D d21_106) rfl ((if0 _ _).trans (teq (by decide : (0 : Int32) = (0 : Int32))).1) (by decide) (by decide) (XS.iload X719.here hx rfl (D d21_118) rfl k)))))))))))) ?_
  exact Go.retI X719 hx hlk hret (D d21_120) (by decide) (by decide) (by rw [e719]; exact ⟨rfl, N719, K720, fe721⟩)
theorem ef_rm_abi_64_28_34 (m : MethodId) (ob : Addr) : entryFrame m #[(.ref ob), (.int (64 : Int32))] 4 = mkF m 0 #[rv ob, iv (64 : Int32), .unset, .unset] [] := by first | (simp [entryFrame, mkF, argsToLocals, Value.category]; done) | rfl
set_option maxRecDepth 65536 in
set_option maxHeartbeats 40000000 in
theorem rm_abi_64_28_34 {l : Launch} {Z : State} {a0 : Array Value} {A : Nat → Addr} {KC : Nat → Cell} {IC : Nat → Int32} {VC : Nat → Value} (hw : ∀ d ∈ tables_1, d.before a0 Z = true) (G : own_Ctx Z A KC IC VC) (ob : Addr) (va : Addr) (kv : ClassId) (bs : List Int32) (h0 : Heap) (O0 : Ext Z.heap h0) (prem0 : bs.length = 28) (prem1 : Exa Z h0 ob "java/lang/StringBuilder") (prem2 : Fld Z h0 ob "java/lang/AbstractStringBuilder" "value" "[B" (.ref va)) (prem3 : Fld Z h0 ob "java/lang/AbstractStringBuilder" "coder" "B" (.int (0 : Int32))) (prem4 : Fld Z h0 ob "java/lang/AbstractStringBuilder" "count" "I" (.int (28 : Int32))) (prem5 : Arv Z h0 va kv .byte (34 : Int32) (bs.map Value.int) (.int (0 : Int32))) (prem6 : Z.heap.size ≤ ob) (prem7 : Z.heap.size ≤ va) (prem8 : ob ≠ va) :
    Ok l Z own_m54 jdk_68_method_32_code 4 (some (.object "java/lang/AbstractStringBuilder")) ({ frames := 1, cells := 0, slots := 0, locals := 18 } : Room) #[(.ref ob), (.int (64 : Int32))] h0
      (fun v h L => v = some (.ref ob) ∧ (Fr Z.heap.size L) ∧ (Keep h0 h [ob, va]) ∧ (Fld Z h ob "java/lang/AbstractStringBuilder" "value" "[B" (.ref va)) ∧ (Fld Z h ob "java/lang/AbstractStringBuilder" "coder" "B" (.int (0 : Int32))) ∧ (Fld Z h ob "java/lang/AbstractStringBuilder" "count" "I" (.int (30 : Int32))) ∧ (Arv Z h va kv .byte (34 : Int32) ((bs ++ [(54 : Int32), (52 : Int32)]).map Value.int) (.int (0 : Int32)))) := by
  refine Ok.mk pn55 ?_
  intro p e s m below meth c T0 hx hby hml hown hnm hret hlk hZ e0 X0
  refine Go.cast (ef_rm_abi_64_28_34 m ob) ?_
  have D := @hb _ _ hby
  have N0 := Fr.nil Z.heap.size
  have K0 : Keep h0 h0 [ob, va] := Keep.refl _ _
  obtain ⟨T723, X723, e723, st723⟩ := getF X0 hx hZ hown (host := "") (Or.inl (own_w hw (i := 60) rfl)) Via.refl e0 prem4 (g := (mkF m 1 #[rv ob, iv 64, .unset, .unset] [(.ref ob)])) rfl rfl (D d13_1)
  obtain ⟨T724, v724, L724, X724, q724, st724⟩ := callSt X723 hx hZ (y := own_m12) hown (own_w hw (i := 101) rfl) (own_w hw (i := 102) rfl) (own_w hw (i := 103) rfl) (own_w hw (i := 104) rfl) (by decide) (rm_ss_64 hw G   h0 O0 ) e723 (W := 1) (by decide) (by decide) (by decide) (by decide) (g := (mkF m 7 #[rv ob, iv 64, iv 28, .unset] [(.int 64), (.int 28)])) rfl (by rw [hml]; rfl) (argsL := [(.int 64)]) (rest := [(.int 28)]) (lenOf pd48 rfl) rfl rfl (Nat.le_of_eq rfl) (D d13_7)
  obtain ⟨rfl, e724, rfl⟩ := q724
  have N724 := Fr.app N0 (Fr.nil _)
  obtain ⟨T725, v725, L725, X725, q725, st725⟩ := callPr X724 hx hZ (y := own_m23) hown (own_w hw (i := 62) rfl) (own_w hw (i := 63) rfl) (own_selfsel (own_w hw (i := 63) rfl) (own_w hw (i := 65) rfl) (own_w hw (i := 64) rfl) (by decide)) (own_w hw (i := 64) rfl) (own_w hw (i := 26) rfl) (own_w hw (i := 66) rfl) (by decide) (rm_ecf_30_34 hw G ob va kv bs h0 O0 prem1 prem2 prem3 prem5) e724 (W := 0) (by decide) (by decide) (by decide) (by decide) prem1 (g := (mkF m 14 #[rv ob, iv 64, iv 28, iv 30] [(.int 30), (.ref ob)])) rfl (by rw [hml]; rfl) (a := ob) (argsL := [(.int 30)]) (rest := []) (lenOf pd2 rfl) rfl rfl (Nat.le_of_eq rfl) (D d13_14)
  obtain ⟨rfl, e725, rfl⟩ := q725
  have N725 := Fr.app N724 (Fr.nil _)
  obtain ⟨T726, v726, L726, X726, q726, st726⟩ := callVi X725 hx hZ (y := own_m14) (z := own_m14) hown (own_w hw (i := 128) rfl) (own_w hw (i := 129) rfl) (notFace_of_selects (args := #[]) (mvT hZ (own_w hw (i := 131) rfl))) (own_w hw (i := 131) rfl) (own_w hw (i := 130) rfl) (own_w hw (i := 132) rfl) (own_w hw (i := 26) rfl) (by decide) (rm_lat hw G ob  h0 O0 prem3) e725 (W := 0) (by decide) (by decide) (by decide) (by decide) prem1 (g := (mkF m 18 #[rv ob, iv 64, iv 28, iv 30] [(.ref ob)])) rfl (by rw [hml]; rfl) (argsL := []) (rest := []) (lenOf pd52 rfl) rfl rfl (Nat.le_of_eq rfl) (D d13_18)
  obtain ⟨rfl, e726, rfl⟩ := q726
  have N726 := Fr.app N725 (Fr.nil _)
  obtain ⟨T728, X728, e728, st728⟩ := getF X726 hx hZ hown (host := "") (Or.inl (own_w hw (i := 32) rfl)) Via.refl e726 prem2 (g := (mkF m 27 #[rv ob, iv 64, iv 28, iv 30] [(.ref ob), (.int 30), (.int 64)])) rfl rfl (D d13_27)
  obtain ⟨T729, v729, L729, X729, q729, st729⟩ := callSt X728 hx hZ (y := own_m50) hown (own_w hw (i := 133) rfl) (own_w hw (i := 134) rfl) (own_w hw (i := 103) rfl) (own_w hw (i := 135) rfl) (by decide) (rm_gch_64_28_34 hw G va kv bs h0 O0 (prem0) prem5 prem7) e728 (W := 0) (by decide) (by decide) (by decide) (by decide) (g := (mkF m 30 #[rv ob, iv 64, iv 28, iv 30] [(.ref va), (.int 30), (.int 64)])) rfl (by rw [hml]; rfl) (argsL := [(.int 64), (.int 30), (.ref va)]) (rest := []) (lenOf pd53 rfl) rfl rfl (Nat.le_of_eq rfl) (D d13_30)
  obtain ⟨rfl, N729q, K729q, p729_0⟩ := q729
  have N729 := Fr.app N726 N729q
  have O730 := Old0.keep O0 K729q (allS prem7 all0)
  have K730 := Keep.trans K0 K729q (allS (Or.inl (List.mem_of_getElem? (i := 1) rfl)) all0)
  have f732 : Exa Z T729.heap ob "java/lang/StringBuilder" := (Exa.keep prem1 K729q)
  have f733 : Fld Z T729.heap ob "java/lang/AbstractStringBuilder" "count" "I" (.int 28) := (Fld.keep prem4 K729q (ninS prem8 nin0))
  obtain ⟨T731, h731, X731, e731, W731, st731⟩ := putF X729 hx hZ hown (host := "") (Or.inl (own_w hw (i := 60) rfl)) Via.refl rfl f733 f732 (Or.inl (own_w hw (i := 61) rfl)) (own_w hw (i := 17) rfl) (ty := .int) (by decide) rfl rfl (g := (mkF m 50 #[rv ob, iv 64, iv 28, iv 30] [(.int 30), (.ref ob)])) rfl rfl (D d13_50)
  have O734 := Old0.wr O730 W731 prem6
  have K734 := Keep.wr K730 W731 (Or.inl (List.mem_of_getElem? (i := 0) rfl))
  have N731 := Fr.snoc X731 N729 prem6
  have f731 : Fld Z h731 ob "java/lang/AbstractStringBuilder" "count" "I" (.int 30) := Fld.same W731 f733
  refine Go.of (T' := T731) (f' := (mkF m 53 #[rv ob, iv 64, iv 28, iv 30] [])) (fun _ k => XS.aloadN X0.here hx rfl (D d13_0) rfl rfl (st723 _ (XS.istoreN X723.here hx rfl (D d13_4) rfl (l' := #[rv ob, iv 64, iv 28, .unset]) rfl (XS.iloadN X723.here hx rfl (D d13_5) rfl (XS.iloadN X723.here hx rfl (D d13_6) rfl (st724 _ (XS.iadd X724.here hx rfl (D d13_10) rfl (XS.istoreN X724.here hx rfl (D d13_11) rfl (l' := #[rv ob, iv 64, iv 28, iv 30]) rfl (XS.aloadN X724.here hx rfl (D d13_12) rfl rfl (XS.iloadN X724.here hx rfl (D d13_13) rfl (st725 _ (XS.aloadN X725.here hx rfl (D d13_17) rfl rfl (st726 _ (XS.ifNo X726.here hx rfl (D d13_21) rfl ((if0 _ _).trans (feq (by decide : ¬ ((1 : Int32) = (0 : Int32)))).1) (XS.iloadN X726.here hx rfl (D d13_24) rfl (XS.iloadN X726.here hx rfl (D d13_25) rfl (XS.aloadN X726.here hx rfl (D d13_26) rfl rfl (st728 _ (st729 _ (XT.pop X729.here hx rfl (D d13_33) rfl rfl (XS.goto X729.here hx rfl (pc0 := 34) (pc' := 48) rfl (D d13_34) (by decide) (by decide) (XS.aloadN X729.here hx rfl (D d13_48) rfl rfl (XS.iloadN X729.here hx rfl (D d13_49) rfl (st731 _ k)))))))))))))))))))))))) ?_
  have f735 : Fld Z h731 ob "java/lang/AbstractStringBuilder" "value" "[B" (.ref va) := (Fld.other W731 (Fld.keep prem2 K729q (ninS prem8 nin0)) (Or.inr (slot_ne (Or.inl (own_w hw (i := 33) rfl)) (Or.inl (own_w hw (i := 61) rfl)) (by decide) (t := (.array .byte)) (t' := .int) (by decide) (by decide))))
  have f736 : Fld Z h731 ob "java/lang/AbstractStringBuilder" "coder" "B" (.int 0) := (Fld.other W731 (Fld.keep prem3 K729q (ninS prem8 nin0)) (Or.inr (slot_ne (Or.inl (own_w hw (i := 35) rfl)) (Or.inl (own_w hw (i := 61) rfl)) (by decide) (t := .byte) (t' := .int) (by decide) (by decide))))
  have f737 : Arv Z h731 va kv .byte (34 : Int32) ((bs ++ [(54 : Int32), (52 : Int32)]).map Value.int) (.int 0) := (Arv.other p729_0 W731 (Ne.symm prem8))
  refine Go.of (T' := T731) (f' := (mkF m 54 #[rv ob, iv 64, iv 28, iv 30] [(.ref ob)])) (fun _ k => XS.aloadN X731.here hx rfl (D d13_53) rfl rfl k) ?_
  exact Go.retA X731 hx hlk hret rfl rfl (D d13_54) (by decide) (by decide) (by rw [e731]; exact ⟨rfl, N731, K734, f735, f736, f731, f737⟩)
theorem ef_rm_sbi_64_28_34 (m : MethodId) (ob : Addr) : entryFrame m #[(.ref ob), (.int (64 : Int32))] 2 = mkF m 0 #[rv ob, iv (64 : Int32)] [] := by first | (simp [entryFrame, mkF, argsToLocals, Value.category]; done) | rfl
set_option maxRecDepth 65536 in
set_option maxHeartbeats 40000000 in
theorem rm_sbi_64_28_34 {l : Launch} {Z : State} {a0 : Array Value} {A : Nat → Addr} {KC : Nat → Cell} {IC : Nat → Int32} {VC : Nat → Value} (hw : ∀ d ∈ tables_1, d.before a0 Z = true) (G : own_Ctx Z A KC IC VC) (ob : Addr) (va : Addr) (kv : ClassId) (bs : List Int32) (h0 : Heap) (O0 : Ext Z.heap h0) (prem0 : bs.length = 28) (prem1 : Exa Z h0 ob "java/lang/StringBuilder") (prem2 : Fld Z h0 ob "java/lang/AbstractStringBuilder" "value" "[B" (.ref va)) (prem3 : Fld Z h0 ob "java/lang/AbstractStringBuilder" "coder" "B" (.int (0 : Int32))) (prem4 : Fld Z h0 ob "java/lang/AbstractStringBuilder" "count" "I" (.int (28 : Int32))) (prem5 : Arv Z h0 va kv .byte (34 : Int32) (bs.map Value.int) (.int (0 : Int32))) (prem6 : Z.heap.size ≤ ob) (prem7 : Z.heap.size ≤ va) (prem8 : ob ≠ va) :
    Ok l Z own_m57 jdk_67_method_15_code 2 (some (.object "java/lang/StringBuilder")) ({ frames := 2, cells := 0, slots := 0, locals := 33 } : Room) #[(.ref ob), (.int (64 : Int32))] h0
      (fun v h L => v = some (.ref ob) ∧ (Fr Z.heap.size L) ∧ (Keep h0 h [ob, va]) ∧ (Fld Z h ob "java/lang/AbstractStringBuilder" "value" "[B" (.ref va)) ∧ (Fld Z h ob "java/lang/AbstractStringBuilder" "coder" "B" (.int (0 : Int32))) ∧ (Fld Z h ob "java/lang/AbstractStringBuilder" "count" "I" (.int (30 : Int32))) ∧ (Arv Z h va kv .byte (34 : Int32) ((bs ++ [(54 : Int32), (52 : Int32)]).map Value.int) (.int (0 : Int32)))) := by
  refine Ok.mk pn58 ?_
  intro p e s m below meth c T0 hx hby hml hown hnm hret hlk hZ e0 X0
  refine Go.cast (ef_rm_sbi_64_28_34 m ob) ?_
  have D := @hb _ _ hby
  have N0 := Fr.nil Z.heap.size
  have K0 : Keep h0 h0 [ob, va] := Keep.refl _ _
  obtain ⟨T738, v738, L738, X738, q738, st738⟩ := callSu X0 hx hZ (y := own_m54) hown (own_w hw (i := 97) rfl) (nf_mate (own_w hw (i := 65) rfl) rfl) (own_w hw (i := 98) rfl) (own_w hw (i := 44) rfl) (by decide) (own_w hw (i := 100) rfl) (own_w hw (i := 26) rfl) (by decide) (rm_abi_64_28_34 hw G ob va kv bs h0 O0 (prem0) prem1 prem2 prem3 prem4 prem5 prem6 prem7 prem8) e0 (W := 0) (by decide) (by decide) (by decide) (by decide) (Ins.self prem1) (g := (mkF m 2 #[rv ob, iv 64] [(.int 64), (.ref ob)])) rfl (by rw [hml]; rfl) (argsL := [(.int 64)]) (rest := []) (lenOf pd56 rfl) rfl rfl (Nat.le_of_eq rfl) (D d12_2)
  obtain ⟨rfl, N738q, K738q, p738_0, p738_1, p738_2, p738_3⟩ := q738
  have N738 := Fr.app N0 N738q
  have O739 := Old0.keep O0 K738q (allS prem6 (allS prem7 all0))
  have K739 := Keep.trans K0 K738q (allS (Or.inl (List.mem_of_getElem? (i := 0) rfl)) (allS (Or.inl (List.mem_of_getElem? (i := 1) rfl)) all0))
  refine Go.of (T' := T738) (f' := (mkF m 7 #[rv ob, iv 64] [(.ref ob)])) (fun _ k => XS.aloadN X0.here hx rfl (D d12_0) rfl rfl (XS.iloadN X0.here hx rfl (D d12_1) rfl (st738 _ (XT.pop X738.here hx rfl (D d12_5) rfl rfl (XS.aloadN X738.here hx rfl (D d12_6) rfl rfl k))))) ?_
  exact Go.retA X738 hx hlk hret rfl rfl (D d12_7) (by decide) (by decide) ⟨rfl, N738, K739, p738_0, p738_1, p738_2, p738_3⟩
theorem ef_rm_max_30_36 (m : MethodId)  : entryFrame m #[(.int (30 : Int32)), (.int (36 : Int32))] 2 = mkF m 0 #[iv (30 : Int32), iv (36 : Int32)] [] := by first | (simp [entryFrame, mkF, argsToLocals, Value.category]; done) | rfl
set_option maxRecDepth 65536 in
set_option maxHeartbeats 40000000 in
theorem rm_max_30_36 {l : Launch} {Z : State} {a0 : Array Value} {A : Nat → Addr} {KC : Nat → Cell} {IC : Nat → Int32} {VC : Nat → Value} (hw : ∀ d ∈ tables_1, d.before a0 Z = true) (G : own_Ctx Z A KC IC VC)   (h0 : Heap) (O0 : Ext Z.heap h0)  :
    Ok l Z own_m38 jdk_29_method_65_code 2 (some .int) ({ frames := 0, cells := 0, slots := 0, locals := 0 } : Room) #[(.int (30 : Int32)), (.int (36 : Int32))] h0
      (fun v h L => v = some (.int (36 : Int32)) ∧ (h = h0) ∧ (L = [])) := by
  refine Ok.mk pn_java_lang_Math_max__II_I ?_
  intro p e s m below meth c T0 hx hby hml hown hnm hret hlk hZ e0 X0
  refine Go.cast (ef_rm_max_30_36 m ) ?_
  have D := @hb _ _ hby
  have N0 := Fr.nil Z.heap.size
  have K0 : Keep h0 h0 [] := Keep.refl _ _
  refine Go.of (T' := T0) (f' := (mkF m 10 #[iv 30, iv 36] [(.int 36)])) (fun _ k => XS.iloadN X0.here hx rfl (D d17_0) rfl (XS.iloadN X0.here hx rfl (D d17_1) rfl (XS.icmpYes X0.here hx rfl (pc0 := 2) (pc' := 9) rfl (D d17_2) rfl (tlt (by decide : (30 : Int32) < (36 : Int32))).1 (by decide) (by decide) (XS.iloadN X0.here hx rfl (D d17_9) rfl k)))) ?_
  exact Go.retI X0 hx hlk hret (D d17_10) (by decide) (by decide) (by rw [e0]; exact ⟨rfl, rfl, by simp⟩)
theorem ef_rm_nlen_34_30_36 (m : MethodId)  : entryFrame m #[(.int (34 : Int32)), (.int (30 : Int32)), (.int (36 : Int32))] 4 = mkF m 0 #[iv (34 : Int32), iv (30 : Int32), iv (36 : Int32), .unset] [] := by first | (simp [entryFrame, mkF, argsToLocals, Value.category]; done) | rfl
set_option maxRecDepth 65536 in
set_option maxHeartbeats 40000000 in
theorem rm_nlen_34_30_36 {l : Launch} {Z : State} {a0 : Array Value} {A : Nat → Addr} {KC : Nat → Cell} {IC : Nat → Int32} {VC : Nat → Value} (hw : ∀ d ∈ tables_1, d.before a0 Z = true) (G : own_Ctx Z A KC IC VC)   (h0 : Heap) (O0 : Ext Z.heap h0)  :
    Ok l Z own_m40 jdk_48_method_27_code 4 (some .int) ({ frames := 1, cells := 0, slots := 0, locals := 14 } : Room) #[(.int (34 : Int32)), (.int (30 : Int32)), (.int (36 : Int32))] h0
      (fun v h L => v = some (.int (70 : Int32)) ∧ (h = h0) ∧ (L = [])) := by
  refine Ok.mk pn41 ?_
  intro p e s m below meth c T0 hx hby hml hown hnm hret hlk hZ e0 X0
  refine Go.cast (ef_rm_nlen_34_30_36 m ) ?_
  have D := @hb _ _ hby
  have N0 := Fr.nil Z.heap.size
  have K0 : Keep h0 h0 [] := Keep.refl _ _
  obtain ⟨T741, v741, L741, X741, q741, st741⟩ := callSt X0 hx hZ (y := own_m38) hown (own_w hw (i := 114) rfl) (own_w hw (i := 115) rfl) (own_w hw (i := 116) rfl) (own_w hw (i := 117) rfl) (by decide) (rm_max_30_36 hw G   h0 O0 ) e0 (W := 1) (by decide) (by decide) (by decide) (by decide) (g := (mkF m 3 #[iv 34, iv 30, iv 36, .unset] [(.int 36), (.int 30), (.int 34)])) rfl (by rw [hml]; rfl) (argsL := [(.int 30), (.int 36)]) (rest := [(.int 34)]) (lenOf pd39 rfl) rfl rfl (Nat.le_of_eq rfl) (D d16_3)
  obtain ⟨rfl, e741, rfl⟩ := q741
  have N741 := Fr.app N0 (Fr.nil _)
  refine Go.of (T' := T741) (f' := (mkF m 20 #[iv 34, iv 30, iv 36, iv 70] [(.int 70)])) (fun _ k => XS.iloadN X0.here hx rfl (D d16_0) rfl (XS.iloadN X0.here hx rfl (D d16_1) rfl (XS.iloadN X0.here hx rfl (D d16_2) rfl (st741 _ (XS.iadd X741.here hx rfl (D d16_6) rfl (XS.istoreN X741.here hx rfl (D d16_7) rfl (l' := #[iv 34, iv 30, iv 36, iv 70]) rfl (XS.iconst X741.here hx rfl (D d16_8) (XS.iloadN X741.here hx rfl (D d16_9) rfl (XS.icmpNo X741.here hx rfl (D d16_10) rfl (tlt (by decide : (0 : Int32) < (70 : Int32))).2.1 (XS.iloadN X741.here hx rfl (D d16_13) rfl (X741.ldcInt hx hown (mvT hZ (own_w hw (i := 118) rfl)) (g := (mkF m 14 #[iv 34, iv 30, iv 36, iv 70] [(.int 70)])) rfl (D d16_14) _ (XS.icmpNo X741.here hx rfl (D d16_16) rfl (flt (by decide : ¬ ((2147483639 : Int32) < (70 : Int32)))).2.2.1 (XS.iloadN X741.here hx rfl (D d16_19) rfl k))))))))))))) ?_
  exact Go.retI X741 hx hlk hret (D d16_20) (by decide) (by decide) (by rw [e741]; exact ⟨rfl, rfl, by simp⟩)
theorem ef_rm_ncap_64_34 (m : MethodId) (ob : Addr) : entryFrame m #[(.ref ob), (.int (64 : Int32))] 6 = mkF m 0 #[rv ob, iv (64 : Int32), .unset, .unset, .unset, .unset] [] := by first | (simp [entryFrame, mkF, argsToLocals, Value.category]; done) | rfl
set_option maxRecDepth 65536 in
set_option maxHeartbeats 40000000 in
theorem rm_ncap_64_34 {l : Launch} {Z : State} {a0 : Array Value} {A : Nat → Addr} {KC : Nat → Cell} {IC : Nat → Int32} {VC : Nat → Value} (hw : ∀ d ∈ tables_1, d.before a0 Z = true) (G : own_Ctx Z A KC IC VC) (ob : Addr) (va : Addr) (kv : ClassId) (bs : List Int32) (h0 : Heap) (O0 : Ext Z.heap h0) (prem0 : Exa Z h0 ob "java/lang/StringBuilder") (prem1 : Fld Z h0 ob "java/lang/AbstractStringBuilder" "value" "[B" (.ref va)) (prem2 : Fld Z h0 ob "java/lang/AbstractStringBuilder" "coder" "B" (.int (0 : Int32))) (prem3 : Arv Z h0 va kv .byte (34 : Int32) (bs.map Value.int) (.int (0 : Int32))) :
    Ok l Z own_m43 jdk_68_method_10_code 6 (some .int) ({ frames := 2, cells := 0, slots := 0, locals := 29 } : Room) #[(.ref ob), (.int (64 : Int32))] h0
      (fun v h L => v = some (.int (70 : Int32)) ∧ (h = h0) ∧ (L = [])) := by
  refine Ok.mk pn44 ?_
  intro p e s m below meth c T0 hx hby hml hown hnm hret hlk hZ e0 X0
  refine Go.cast (ef_rm_ncap_64_34 m ob) ?_
  have D := @hb _ _ hby
  have N0 := Fr.nil Z.heap.size
  have K0 : Keep h0 h0 [] := Keep.refl _ _
  obtain ⟨T744, X744, e744, st744⟩ := getF X0 hx hZ hown (host := "") (Or.inl (own_w hw (i := 32) rfl)) Via.refl e0 prem1 (g := (mkF m 1 #[rv ob, iv 64, .unset, .unset, .unset, .unset] [(.ref ob)])) rfl rfl (D d15_1)
  obtain ⟨cl745, Ar745, qk745, S745, Ng745, H745, G745⟩ := id prem3
  obtain ⟨T746, X746, e746, st746⟩ := getF X744 hx hZ hown (host := "") (Or.inl (own_w hw (i := 34) rfl)) Via.refl e744 prem2 (g := (mkF m 8 #[rv ob, iv 64, iv 34, .unset, .unset, .unset] [(.ref ob), (.int 64)])) rfl rfl (D d15_8)
  obtain ⟨T747, X747, e747, st747⟩ := getF X746 hx hZ hown (host := "") (Or.inl (own_w hw (i := 34) rfl)) Via.refl e746 prem2 (g := (mkF m 24 #[rv ob, iv 64, iv 34, iv 64, iv 30, .unset] [(.ref ob), (.int 2), (.int 34), (.int 30), (.int 34)])) rfl rfl (D d15_24)
  obtain ⟨T748, v748, L748, X748, q748, st748⟩ := callSt X747 hx hZ (y := own_m40) hown (own_w hw (i := 110) rfl) (own_w hw (i := 111) rfl) (own_w hw (i := 112) rfl) (own_w hw (i := 113) rfl) (by decide) (rm_nlen_34_30_36 hw G   h0 O0 ) e747 (W := 0) (by decide) (by decide) (by decide) (by decide) (g := (mkF m 29 #[rv ob, iv 64, iv 34, iv 64, iv 30, .unset] [(.int 36), (.int 30), (.int 34)])) rfl (by rw [hml]; rfl) (argsL := [(.int 34), (.int 30), (.int 36)]) (rest := []) (lenOf pd42 rfl) rfl rfl (Nat.le_of_eq rfl) (D d15_29)
  obtain ⟨rfl, e748, rfl⟩ := q748
  have N748 := Fr.app N0 (Fr.nil _)
  refine Go.of (T' := T748) (f' := (mkF m 36 #[rv ob, iv 64, iv 34, iv 64, iv 30, iv 70] [(.int 70)])) (fun _ k => XS.aloadN X0.here hx rfl (D d15_0) rfl rfl (st744 _ (X744.arraylength hx (by rw [e744]; exact Ar745.1) (State.isArrayOf_alike hZ.alike Ar745.2.1) (g := (mkF m 4 #[rv ob, iv 64, .unset, .unset, .unset, .unset] [(.ref va)])) rfl rfl (D d15_4) _ (by rw [len_of S745 Ng745]; exact (XS.istoreN X744.here hx rfl (D d15_5) rfl (l' := #[rv ob, iv 64, iv 34, .unset, .unset, .unset]) rfl (XS.iloadN X744.here hx rfl (D d15_6) rfl (XS.aloadN X744.here hx rfl (D d15_7) rfl rfl (st746 _ (XS.ishl X746.here hx rfl (D d15_11) rfl (XS.istoreN X746.here hx rfl (D d15_12) rfl (l' := #[rv ob, iv 64, iv 34, iv 64, .unset, .unset]) rfl (XS.iloadN X746.here hx rfl (D d15_13) rfl (XS.iloadN X746.here hx rfl (D d15_14) rfl (XS.isub X746.here hx rfl (D d15_15) rfl (XS.istore X746.here hx rfl (D d15_16) rfl (l' := #[rv ob, iv 64, iv 34, iv 64, iv 30, .unset]) rfl (XS.iloadN X746.here hx rfl (D d15_18) rfl (XS.iload X746.here hx rfl (D d15_19) rfl (XS.iloadN X746.here hx rfl (D d15_21) rfl (XS.iconst X746.here hx rfl (D d15_22) (XS.aloadN X746.here hx rfl (D d15_23) rfl rfl (st747 _ (XS.ishl X747.here hx rfl (D d15_27) rfl (XS.iadd X747.here hx rfl (D d15_28) rfl (st748 _ (XS.istore X748.here hx rfl (D d15_32) rfl (l' := #[rv ob, iv 64, iv 34, iv 64, iv 30, iv 70]) rfl (XS.iload X748.here hx rfl (D d15_34) rfl k))))))))))))))))))))))))) ?_
  obtain ⟨T750, X750, e750, st750⟩ := getF X748 hx hZ hown (host := "") (Or.inl (own_w hw (i := 34) rfl)) Via.refl e748 prem2 (g := (mkF m 54 #[rv ob, iv 64, iv 34, iv 64, iv 30, iv 70] [(.ref ob), (.int 70)])) rfl rfl (D d15_54)
  refine Go.of (T' := T750) (f' := (mkF m 58 #[rv ob, iv 64, iv 34, iv 64, iv 30, iv 70] [(.int 70)])) (fun _ k => X748.ldcInt hx hown (mvT hZ (own_w hw (i := 119) rfl)) (g := (mkF m 36 #[rv ob, iv 64, iv 34, iv 64, iv 30, iv 70] [(.int 70)])) rfl (D d15_36) _ (XS.icmpYes X748.here hx rfl (pc0 := 38) (pc' := 51) rfl (D d15_38) rfl (feq (by decide : ¬ ((70 : Int32) = (2147483647 : Int32)))).2 (by decide) (by decide) (XS.iload X748.here hx rfl (D d15_51) rfl (XS.aloadN X748.here hx rfl (D d15_53) rfl rfl (st750 _ (XS.ishr X750.here hx rfl (D d15_57) rfl k)))))) ?_
  exact Go.retI X750 hx hlk hret (D d15_58) (by decide) (by decide) (by rw [e750]; exact ⟨rfl, rfl, by simp⟩)
theorem ef_rm_cof_30_34_70 (m : MethodId) (va : Addr) : entryFrame m #[(.ref va), (.int (70 : Int32))] 3 = mkF m 0 #[rv va, iv (70 : Int32), .unset] [] := by first | (simp [entryFrame, mkF, argsToLocals, Value.category]; done) | rfl
set_option maxRecDepth 65536 in
set_option maxHeartbeats 40000000 in
theorem rm_cof_30_34_70 {l : Launch} {Z : State} {a0 : Array Value} {A : Nat → Addr} {KC : Nat → Cell} {IC : Nat → Int32} {VC : Nat → Value} (hw : ∀ d ∈ tables_1, d.before a0 Z = true) (G : own_Ctx Z A KC IC VC) (va : Addr) (kv : ClassId) (bs : List Int32) (h0 : Heap) (O0 : Ext Z.heap h0) (prem0 : bs.length = 30) (prem1 : Arv Z h0 va kv .byte (34 : Int32) (bs.map Value.int) (.int (0 : Int32))) :
    Ok l Z own_m46 jdk_65_method_121_code 3 (some (.array .byte)) ({ frames := 1, cells := 1, slots := 70, locals := 18 } : Room) #[(.ref va), (.int (70 : Int32))] h0
      (fun v h L => ∃ vb : Addr, ∃ kb : ClassId, v = some (.ref vb) ∧ (Fr Z.heap.size L) ∧ (Keep h0 h []) ∧ (h0.size ≤ vb) ∧ (Arv Z h vb kb .byte (70 : Int32) (bs.map Value.int) (.int (0 : Int32))) ∧ (Exa Z h vb "[B")) := by
  refine Ok.mk pn47 ?_
  intro p e s m below meth c T0 hx hby hml hown hnm hret hlk hZ e0 X0
  refine Go.cast (ef_rm_cof_30_34_70 m va) ?_
  have D := @hb _ _ hby
  have N0 := Fr.nil Z.heap.size
  have K0 : Keep h0 h0 [] := Keep.refl _ _
  obtain ⟨cl751, Ar751, qk751, S751, Ng751, H751, G751⟩ := id prem1
  obtain ⟨T753, h753, k753, b753, q753, X753, e753, E753, V753, A753, st753⟩ := newAr X0 hx hZ (own_w hw (i := 6) rfl) e0 (g := (mkF m 15 #[rv va, iv 70, .unset] [(.int 70)])) rfl (D d18_15) rfl (by decide) (cap := 70) (by decide) (by decide) (by decide) (by decide) (ad := "[B") (by decide)
  have O754 := Old0.ext O0 E753
  have K754 := Keep.ext K0 E753
  have g_b753 : Z.heap.size ≤ b753 := q753 ▸ O0.1
  have z_b753 : h0.size ≤ b753 := q753 ▸ K0.1
  have ne_va_b753 : va ≠ b753 := q753 ▸ Nat.ne_of_lt prem1.lt
  have f755 : Arv Z h753 b753 k753 .byte (70 : Int32) [(.int 0), (.int 0), (.int 0), (.int 0), (.int 0), (.int 0), (.int 0), (.int 0), (.int 0), (.int 0), (.int 0), (.int 0), (.int 0), (.int 0), (.int 0), (.int 0), (.int 0), (.int 0), (.int 0), (.int 0), (.int 0), (.int 0), (.int 0), (.int 0), (.int 0), (.int 0), (.int 0), (.int 0), (.int 0), (.int 0), (.int 0), (.int 0), (.int 0), (.int 0), (.int 0), (.int 0), (.int 0), (.int 0), (.int 0), (.int 0), (.int 0), (.int 0), (.int 0), (.int 0), (.int 0), (.int 0), (.int 0), (.int 0), (.int 0), (.int 0), (.int 0), (.int 0), (.int 0), (.int 0), (.int 0), (.int 0), (.int 0), (.int 0), (.int 0), (.int 0), (.int 0), (.int 0), (.int 0), (.int 0), (.int 0), (.int 0), (.int 0), (.int 0), (.int 0), (.int 0)] (.int 0) := Arv.pad V753 (pad_rep [] (.int 0) 70)
  have fz756 : Arv Z h753 b753 k753 .byte (70 : Int32) (([] : List Int32).map Value.int) (.int 0) := Arv.pad f755 (fun i => (pad_rep [] (.int 0) 70 i).symm)
  have f758 : Arv Z h753 va kv .byte (34 : Int32) (bs.map Value.int) (.int 0) := (Arv.ext prem1 E753)
  obtain ⟨cl757, Ar757, qk757, S757, Ng757, H757, G757⟩ := id f758
  obtain ⟨T759, v759, L759, X759, q759, st759⟩ := callSt X753 hx hZ (y := own_m45) hown (own_w hw (i := 124) rfl) (own_w hw (i := 125) rfl) (own_w hw (i := 116) rfl) (own_w hw (i := 126) rfl) (by decide) (rm_min_34_70 hw G   h753 O754 ) e753 (W := 4) (by decide) (by decide) (by decide) (by decide) (g := (mkF m 25 #[rv va, iv 70, rv b753] [(.int 70), (.int 34), (.int 0), (.ref b753), (.int 0), (.ref va)])) rfl (by rw [hml]; rfl) (argsL := [(.int 34), (.int 70)]) (rest := [(.int 0), (.ref b753), (.int 0), (.ref va)]) (lenOf pd39 rfl) rfl rfl (Nat.le_of_eq rfl) (D d18_25)
  obtain ⟨rfl, e759, rfl⟩ := q759
  have N759 := Fr.app N0 (Fr.nil _)
  obtain ⟨T760, h760, L760, X760, e760, N760, Kq760, V760, st760⟩ := own_cpG X759 hx hZ hown (own_w hw (i := 127) rfl) (own_w hw (i := 86) rfl) (own_w hw (i := 84) rfl) (own_w hw (i := 85) rfl) e759 f758 fz756 (dp := (0 : Int32)) (nn := (34 : Int32)) (by decide) (by decide) (by decide) (by rw [prem0]; decide) (by decide) (by decide) N759 g_b753 (g := (mkF m 28 #[rv va, iv 70, rv b753] [(.int 34), (.int 0), (.ref b753), (.int 0), (.ref va)])) rfl (by rw [hml]; rfl) rfl (D d18_28) (by decide) (W := 0) (Nat.le_of_eq rfl) (by decide)
  have O761 := Old0.keep O754 Kq760 (allS g_b753 all0)
  have K761 := Keep.trans K754 Kq760 (allS (Or.inr z_b753) all0)
  have f762 : Exa Z h760 b753 "[B" := (Exa.keep A753 Kq760)
  refine Go.of (T' := T760) (f' := (mkF m 32 #[rv va, iv 70, rv b753] [(.ref b753)])) (fun _ k => XS.iloadN X0.here hx rfl (D d18_0) rfl (XS.aloadN X0.here hx rfl (D d18_1) rfl rfl (X0.arraylength hx (by rw [e0]; exact Ar751.1) (State.isArrayOf_alike hZ.alike Ar751.2.1) (g := (mkF m 2 #[rv va, iv 70, .unset] [(.ref va), (.int 70)])) rfl rfl (D d18_2) _ (by rw [len_of S751 Ng751]; exact (XS.icmpYes X0.here hx rfl (pc0 := 3) (pc' := 14) rfl (D d18_3) rfl (feq (by decide : ¬ ((70 : Int32) = (34 : Int32)))).2 (by decide) (by decide) (XS.iloadN X0.here hx rfl (D d18_14) rfl (st753 _ (XS.astoreN X753.here hx rfl (D d18_17) rfl rfl (l' := #[rv va, iv 70, rv b753]) rfl (XS.aloadN X753.here hx rfl (D d18_18) rfl rfl (XS.iconst X753.here hx rfl (D d18_19) (XS.aloadN X753.here hx rfl (D d18_20) rfl rfl (XS.iconst X753.here hx rfl (D d18_21) (XS.aloadN X753.here hx rfl (D d18_22) rfl rfl (X753.arraylength hx (by rw [e753]; exact Ar757.1) (State.isArrayOf_alike hZ.alike Ar757.2.1) (g := (mkF m 23 #[rv va, iv 70, rv b753] [(.ref va), (.int 0), (.ref b753), (.int 0), (.ref va)])) rfl rfl (D d18_23) _ (by rw [len_of S757 Ng757]; exact (XS.iloadN X753.here hx rfl (D d18_24) rfl (st759 _ (st760 _ (XS.aloadN X760.here hx rfl (D d18_31) rfl rfl k))))))))))))))))))) ?_
  exact Go.retA X760 hx hlk hret rfl rfl (D d18_32) (by decide) (by decide) (by rw [e760]; exact ⟨b753, k753, rfl, N760, K761, z_b753, V760, f762⟩)
theorem ef_rm_ecg_30_64_34 (m : MethodId) (ob : Addr) : entryFrame m #[(.ref ob), (.int (64 : Int32))] 3 = mkF m 0 #[rv ob, iv (64 : Int32), .unset] [] := by first | (simp [entryFrame, mkF, argsToLocals, Value.category]; done) | rfl
set_option maxRecDepth 65536 in
set_option maxHeartbeats 40000000 in
theorem rm_ecg_30_64_34 {l : Launch} {Z : State} {a0 : Array Value} {A : Nat → Addr} {KC : Nat → Cell} {IC : Nat → Int32} {VC : Nat → Value} (hw : ∀ d ∈ tables_1, d.before a0 Z = true) (G : own_Ctx Z A KC IC VC) (ob : Addr) (va : Addr) (kv : ClassId) (bs : List Int32) (h0 : Heap) (O0 : Ext Z.heap h0) (prem0 : bs.length = 30) (prem1 : Exa Z h0 ob "java/lang/StringBuilder") (prem2 : Fld Z h0 ob "java/lang/AbstractStringBuilder" "value" "[B" (.ref va)) (prem3 : Fld Z h0 ob "java/lang/AbstractStringBuilder" "coder" "B" (.int (0 : Int32))) (prem4 : Arv Z h0 va kv .byte (34 : Int32) (bs.map Value.int) (.int (0 : Int32))) (prem5 : Z.heap.size ≤ ob) (prem6 : Fld Z h0 ob "java/lang/AbstractStringBuilder" "count" "I" (.int (30 : Int32))) :
    Ok l Z own_m23 jdk_68_method_9_code 3 none ({ frames := 3, cells := 1, slots := 70, locals := 48 } : Room) #[(.ref ob), (.int (64 : Int32))] h0
      (fun v h L => ∃ vb : Addr, ∃ kb : ClassId, v = none ∧ (Fr Z.heap.size L) ∧ (Keep h0 h [ob]) ∧ (h0.size ≤ vb) ∧ (Fld Z h ob "java/lang/AbstractStringBuilder" "value" "[B" (.ref vb)) ∧ (Fld Z h ob "java/lang/AbstractStringBuilder" "coder" "B" (.int (0 : Int32))) ∧ (Fld Z h ob "java/lang/AbstractStringBuilder" "count" "I" (.int (30 : Int32))) ∧ (Arv Z h vb kb .byte (70 : Int32) (bs.map Value.int) (.int (0 : Int32)))) := by
  refine Ok.mk pn24 ?_
  intro p e s m below meth c T0 hx hby hml hown hnm hret hlk hZ e0 X0
  refine Go.cast (ef_rm_ecg_30_64_34 m ob) ?_
  have D := @hb _ _ hby
  have N0 := Fr.nil Z.heap.size
  have K0 : Keep h0 h0 [ob] := Keep.refl _ _
  obtain ⟨T763, X763, e763, st763⟩ := getF X0 hx hZ hown (host := "") (Or.inl (own_w hw (i := 32) rfl)) Via.refl e0 prem2 (g := (mkF m 1 #[rv ob, iv 64, .unset] [(.ref ob)])) rfl rfl (D d8_1)
  obtain ⟨cl764, Ar764, qk764, S764, Ng764, H764, G764⟩ := id prem4
  obtain ⟨T765, X765, e765, st765⟩ := getF X763 hx hZ hown (host := "") (Or.inl (own_w hw (i := 34) rfl)) Via.refl e763 prem3 (g := (mkF m 6 #[rv ob, iv 64, .unset] [(.ref ob), (.int 34)])) rfl rfl (D d8_6)
  obtain ⟨T767, X767, e767, st767⟩ := getF X765 hx hZ hown (host := "") (Or.inl (own_w hw (i := 32) rfl)) Via.refl e765 prem2 (g := (mkF m 19 #[rv ob, iv 64, iv 34] [(.ref ob), (.ref ob)])) rfl rfl (D d8_19)
  obtain ⟨T768, v768, L768, X768, q768, st768⟩ := callPr X767 hx hZ (y := own_m43) hown (own_w hw (i := 105) rfl) (own_w hw (i := 106) rfl) (own_selfsel (own_w hw (i := 106) rfl) (own_w hw (i := 108) rfl) (own_w hw (i := 107) rfl) (by decide)) (own_w hw (i := 107) rfl) (own_w hw (i := 26) rfl) (own_w hw (i := 109) rfl) (by decide) (rm_ncap_64_34 hw G ob va kv bs h0 O0 prem1 prem2 prem3 prem4) e767 (W := 2) (by decide) (by decide) (by decide) (by decide) prem1 (g := (mkF m 24 #[rv ob, iv 64, iv 34] [(.int 64), (.ref ob), (.ref va), (.ref ob)])) rfl (by rw [hml]; rfl) (a := ob) (argsL := [(.int 64)]) (rest := [(.ref va), (.ref ob)]) (lenOf pd48 rfl) rfl rfl (Nat.le_of_eq rfl) (D d8_24)
  obtain ⟨rfl, e768, rfl⟩ := q768
  have N768 := Fr.app N0 (Fr.nil _)
  obtain ⟨T769, X769, e769, st769⟩ := getF X768 hx hZ hown (host := "") (Or.inl (own_w hw (i := 34) rfl)) Via.refl e768 prem3 (g := (mkF m 28 #[rv ob, iv 64, iv 34] [(.ref ob), (.int 70), (.ref va), (.ref ob)])) rfl rfl (D d8_28)
  obtain ⟨T770, v770, L770, X770, q770, st770⟩ := callSt X769 hx hZ (y := own_m46) hown (own_w hw (i := 120) rfl) (own_w hw (i := 121) rfl) (own_w hw (i := 122) rfl) (own_w hw (i := 123) rfl) (by decide) (rm_cof_30_34_70 hw G va kv bs h0 O0 (prem0) prem4) e769 (W := 1) (by decide) (by decide) (by decide) (by decide) (g := (mkF m 32 #[rv ob, iv 64, iv 34] [(.int 70), (.ref va), (.ref ob)])) rfl (by rw [hml]; rfl) (argsL := [(.ref va), (.int 70)]) (rest := [(.ref ob)]) (lenOf pd49 rfl) rfl rfl (Nat.le_of_eq rfl) (D d8_32)
  obtain ⟨vb_770, kb_770, rfl, N770q, K770q, p770_0, p770_1, p770_2⟩ := q770
  have N770 := Fr.app N768 N770q
  have O771 := Old0.keep O0 K770q all0
  have K771 := Keep.trans K0 K770q all0
  have z_vb_770 : h0.size ≤ vb_770 := Nat.le_trans K0.1 p770_0
  have g_vb_770 : Z.heap.size ≤ vb_770 := Nat.le_trans O0.1 p770_0
  have ne_ob_vb_770 : ob ≠ vb_770 := Nat.ne_of_lt (Nat.lt_of_lt_of_le prem1.lt p770_0)
  have ne_va_vb_770 : va ≠ vb_770 := Nat.ne_of_lt (Nat.lt_of_lt_of_le prem4.lt p770_0)
  have f773 : Exa Z T770.heap ob "java/lang/StringBuilder" := (Exa.keep prem1 K770q)
  have f774 : Fld Z T770.heap ob "java/lang/AbstractStringBuilder" "value" "[B" (.ref va) := (Fld.keep prem2 K770q nin0)
  obtain ⟨T772, h772, X772, e772, W772, st772⟩ := putF X770 hx hZ hown (host := "") (Or.inl (own_w hw (i := 32) rfl)) Via.refl rfl f774 f773 (Or.inl (own_w hw (i := 33) rfl)) (own_w hw (i := 17) rfl) (ty := (.array .byte)) (by decide) rfl rfl (g := (mkF m 35 #[rv ob, iv 64, iv 34] [(.ref vb_770), (.ref ob)])) rfl rfl (D d8_35)
  have O775 := Old0.wr O771 W772 prem5
  have K775 := Keep.wr K771 W772 (Or.inl (List.mem_of_getElem? (i := 0) rfl))
  have N772 := Fr.snoc X772 N770 prem5
  have f772 : Fld Z h772 ob "java/lang/AbstractStringBuilder" "value" "[B" (.ref vb_770) := Fld.same W772 f774
  have f776 : Fld Z h772 ob "java/lang/AbstractStringBuilder" "coder" "B" (.int 0) := (Fld.other W772 (Fld.keep prem3 K770q nin0) (Or.inr (slot_ne (Or.inl (own_w hw (i := 35) rfl)) (Or.inl (own_w hw (i := 33) rfl)) (by decide) (t := .byte) (t' := (.array .byte)) (by decide) (by decide))))
  have f777 : Fld Z h772 ob "java/lang/AbstractStringBuilder" "count" "I" (.int 30) := (Fld.other W772 (Fld.keep prem6 K770q nin0) (Or.inr (slot_ne (Or.inl (own_w hw (i := 61) rfl)) (Or.inl (own_w hw (i := 33) rfl)) (by decide) (t := .int) (t' := (.array .byte)) (by decide) (by decide))))
  have f778 : Arv Z h772 vb_770 kb_770 .byte (70 : Int32) (bs.map Value.int) (.int 0) := (Arv.other p770_1 W772 (Ne.symm ne_ob_vb_770))
  refine Go.of (T' := T772) (f' := (mkF m 38 #[rv ob, iv 64, iv 34] [])) (fun _ k => XS.aloadN X0.here hx rfl (D d8_0) rfl rfl (st763 _ (X763.arraylength hx (by rw [e763]; exact Ar764.1) (State.isArrayOf_alike hZ.alike Ar764.2.1) (g := (mkF m 4 #[rv ob, iv 64, .unset] [(.ref va)])) rfl rfl (D d8_4) _ (by rw [len_of S764 Ng764]; exact (XS.aloadN X763.here hx rfl (D d8_5) rfl rfl (st765 _ (XS.ishr X765.here hx rfl (D d8_9) rfl (XS.istoreN X765.here hx rfl (D d8_10) rfl (l' := #[rv ob, iv 64, iv 34]) rfl (XS.iloadN X765.here hx rfl (D d8_11) rfl (XS.iloadN X765.here hx rfl (D d8_12) rfl (XS.isub X765.here hx rfl (D d8_13) rfl (XS.ifNo X765.here hx rfl (D d8_14) rfl ((if0 _ _).trans (tlt (by decide : (0 : Int32) < (30 : Int32))).2.2.2) (XS.aloadN X765.here hx rfl (D d8_17) rfl rfl (XS.aloadN X765.here hx rfl (D d8_18) rfl rfl (st767 _ (XS.aloadN X767.here hx rfl (D d8_22) rfl rfl (XS.iloadN X767.here hx rfl (D d8_23) rfl (st768 _ (XS.aloadN X768.here hx rfl (D d8_27) rfl rfl (st769 _ (XS.ishl X769.here hx rfl (D d8_31) rfl (st770 _ (st772 _ k))))))))))))))))))))))) ?_
  exact Go.retV X772 hx hlk hret (D d8_38) (by decide) (by decide) (by rw [e772]; exact ⟨vb_770, kb_770, rfl, N772, K775, z_vb_770, f772, f776, f777, f778⟩)
theorem ef_rm_getb_30_34_70 (m : MethodId) (so : Addr) (va : Addr) : entryFrame m #[(.ref so), (.ref va), (.int (30 : Int32)), (.int (0 : Int32))] 4 = mkF m 0 #[rv so, rv va, iv (30 : Int32), iv (0 : Int32)] [] := by first | (simp [entryFrame, mkF, argsToLocals, Value.category]; done) | rfl
set_option maxRecDepth 65536 in
set_option maxHeartbeats 40000000 in
theorem rm_getb_30_34_70 {l : Launch} {Z : State} {a0 : Array Value} {A : Nat → Addr} {KC : Nat → Cell} {IC : Nat → Int32} {VC : Nat → Value} (hw : ∀ d ∈ tables_1, d.before a0 Z = true) (G : own_Ctx Z A KC IC VC) (so : Addr) (va : Addr) (sv : Addr) (ks : ClassId) (ts : List Int32) (kv : ClassId) (bs : List Int32) (h0 : Heap) (O0 : Ext Z.heap h0) (prem0 : bs.length = 30) (prem1 : ts.length = 34) (prem2 : Exa Z h0 so "java/lang/String") (prem3 : Fld Z h0 so "java/lang/String" "value" "[B" (.ref sv)) (prem4 : Fld Z h0 so "java/lang/String" "coder" "B" (.int (0 : Int32))) (prem5 : Arv Z h0 sv ks .byte (34 : Int32) (ts.map Value.int) (.int (0 : Int32))) (prem6 : Arv Z h0 va kv .byte (70 : Int32) (bs.map Value.int) (.int (0 : Int32))) (prem7 : Z.heap.size ≤ va) :
    Ok l Z own_m25 jdk_42_method_147_code 4 none ({ frames := 1, cells := 0, slots := 0, locals := 18 } : Room) #[(.ref so), (.ref va), (.int (30 : Int32)), (.int (0 : Int32))] h0
      (fun v h L => v = none ∧ (Fr Z.heap.size L) ∧ (Keep h0 h [va]) ∧ (Arv Z h va kv .byte (70 : Int32) ((bs ++ ts).map Value.int) (.int (0 : Int32)))) := by
  refine Ok.mk pn26 ?_
  intro p e s m below meth c T0 hx hby hml hown hnm hret hlk hZ e0 X0
  refine Go.cast (ef_rm_getb_30_34_70 m so va) ?_
  have D := @hb _ _ hby
  have N0 := Fr.nil Z.heap.size
  have K0 : Keep h0 h0 [va] := Keep.refl _ _
  obtain ⟨T779, v779, L779, X779, q779, st779⟩ := callVi X0 hx hZ (y := own_m5) (z := own_m5) hown (own_w hw (i := 53) rfl) (own_w hw (i := 54) rfl) (notFace_of_selects (args := #[]) (mvT hZ (own_w hw (i := 56) rfl))) (own_w hw (i := 56) rfl) (own_w hw (i := 55) rfl) (own_w hw (i := 57) rfl) (own_w hw (i := 4) rfl) (by decide) (rm_coder hw G so  h0 O0 prem4) e0 (W := 0) (by decide) (by decide) (by decide) (by decide) prem2 (g := (mkF m 1 #[rv so, rv va, iv 30, iv 0] [(.ref so)])) rfl (by rw [hml]; rfl) (argsL := []) (rest := []) (lenOf pd7 rfl) rfl rfl (Nat.le_of_eq rfl) (D d11_1)
  obtain ⟨rfl, e779, rfl⟩ := q779
  have N779 := Fr.app N0 (Fr.nil _)
  obtain ⟨T781, X781, e781, st781⟩ := getF X779 hx hZ hown (host := "") (Or.inl (own_w hw (i := 52) rfl)) Via.refl e779 prem3 (g := (mkF m 9 #[rv so, rv va, iv 30, iv 0] [(.ref so)])) rfl rfl (D d11_9)
  obtain ⟨T782, X782, e782, st782⟩ := getF X781 hx hZ hown (host := "") (Or.inl (own_w hw (i := 52) rfl)) Via.refl e781 prem3 (g := (mkF m 18 #[rv so, rv va, iv 30, iv 0] [(.ref so), (.int 30), (.ref va), (.int 0), (.ref sv)])) rfl rfl (D d11_18)
  obtain ⟨cl783, Ar783, qk783, S783, Ng783, H783, G783⟩ := id prem5
  obtain ⟨T784, h784, L784, X784, e784, N784, Kq784, V784, st784⟩ := own_cpG X782 hx hZ hown (own_w hw (i := 83) rfl) (own_w hw (i := 86) rfl) (own_w hw (i := 84) rfl) (own_w hw (i := 85) rfl) e782 prem5 prem6 (dp := (30 : Int32)) (nn := (34 : Int32)) (by rw [prem0]; decide) (by decide) (by decide) (by rw [prem1]; decide) (by decide) (by decide) N779 prem7 (g := (mkF m 22 #[rv so, rv va, iv 30, iv 0] [(.int 34), (.int 30), (.ref va), (.int 0), (.ref sv)])) rfl (by rw [hml]; rfl) rfl (D d11_22) (by decide) (W := 0) (Nat.le_of_eq rfl) (by decide)
  have O785 := Old0.keep O0 Kq784 (allS prem7 all0)
  have K785 := Keep.trans K0 Kq784 (allS (Or.inl (List.mem_of_getElem? (i := 0) rfl)) all0)
  refine Go.of (T' := T784) (f' := (mkF m 43 #[rv so, rv va, iv 30, iv 0] [])) (fun _ k => XS.aloadN X0.here hx rfl (D d11_0) rfl rfl (st779 _ (XS.iloadN X779.here hx rfl (D d11_4) rfl (XS.icmpNo X779.here hx rfl (D d11_5) rfl (teq (by decide : (0 : Int32) = (0 : Int32))).2 (XS.aloadN X779.here hx rfl (D d11_8) rfl rfl (st781 _ (XS.iconst X781.here hx rfl (D d11_12) (XS.aloadN X781.here hx rfl (D d11_13) rfl rfl (XS.iloadN X781.here hx rfl (D d11_14) rfl (XS.iloadN X781.here hx rfl (D d11_15) rfl (XS.ishl X781.here hx rfl (D d11_16) rfl (XS.aloadN X781.here hx rfl (D d11_17) rfl rfl (st782 _ (X782.arraylength hx (by rw [e782]; exact Ar783.1) (State.isArrayOf_alike hZ.alike Ar783.2.1) (g := (mkF m 21 #[rv so, rv va, iv 30, iv 0] [(.ref sv), (.int 30), (.ref va), (.int 0), (.ref sv)])) rfl rfl (D d11_21) _ (by rw [len_of S783 Ng783]; exact (st784 _ (XS.goto X784.here hx rfl (pc0 := 25) (pc' := 43) rfl (D d11_25) (by decide) (by decide) k))))))))))))))))) ?_
  exact Go.retV X784 hx hlk hret (D d11_43) (by decide) (by decide) (by rw [e784]; exact ⟨rfl, N784, K785, V784⟩)
theorem ef_rm_put_30_34_70 (m : MethodId) (ob : Addr) (so : Addr) : entryFrame m #[(.ref ob), (.int (30 : Int32)), (.ref so)] 3 = mkF m 0 #[rv ob, iv (30 : Int32), rv so] [] := by first | (simp [entryFrame, mkF, argsToLocals, Value.category]; done) | rfl
set_option maxRecDepth 65536 in
set_option maxHeartbeats 40000000 in
theorem rm_put_30_34_70 {l : Launch} {Z : State} {a0 : Array Value} {A : Nat → Addr} {KC : Nat → Cell} {IC : Nat → Int32} {VC : Nat → Value} (hw : ∀ d ∈ tables_1, d.before a0 Z = true) (G : own_Ctx Z A KC IC VC) (ob : Addr) (so : Addr) (sv : Addr) (ks : ClassId) (ts : List Int32) (va : Addr) (kv : ClassId) (bs : List Int32) (h0 : Heap) (O0 : Ext Z.heap h0) (prem0 : bs.length = 30) (prem1 : ts.length = 34) (prem2 : Exa Z h0 ob "java/lang/StringBuilder") (prem3 : Fld Z h0 ob "java/lang/AbstractStringBuilder" "value" "[B" (.ref va)) (prem4 : Fld Z h0 ob "java/lang/AbstractStringBuilder" "coder" "B" (.int (0 : Int32))) (prem5 : Exa Z h0 so "java/lang/String") (prem6 : Fld Z h0 so "java/lang/String" "value" "[B" (.ref sv)) (prem7 : Fld Z h0 so "java/lang/String" "coder" "B" (.int (0 : Int32))) (prem8 : Arv Z h0 sv ks .byte (34 : Int32) (ts.map Value.int) (.int (0 : Int32))) (prem9 : Arv Z h0 va kv .byte (70 : Int32) (bs.map Value.int) (.int (0 : Int32))) (prem10 : Z.heap.size ≤ va) :
    Ok l Z own_m29 jdk_68_method_73_code 3 none ({ frames := 2, cells := 0, slots := 0, locals := 33 } : Room) #[(.ref ob), (.int (30 : Int32)), (.ref so)] h0
      (fun v h L => v = none ∧ (Fr Z.heap.size L) ∧ (Keep h0 h [va]) ∧ (Arv Z h va kv .byte (70 : Int32) ((bs ++ ts).map Value.int) (.int (0 : Int32)))) := by
  refine Ok.mk pn30 ?_
  intro p e s m below meth c T0 hx hby hml hown hnm hret hlk hZ e0 X0
  refine Go.cast (ef_rm_put_30_34_70 m ob so) ?_
  have D := @hb _ _ hby
  have N0 := Fr.nil Z.heap.size
  have K0 : Keep h0 h0 [va] := Keep.refl _ _
  obtain ⟨T786, v786, L786, X786, q786, st786⟩ := callPr X0 hx hZ (y := own_m10) hown (own_w hw (i := 72) rfl) (own_w hw (i := 73) rfl) (own_selfsel (own_w hw (i := 73) rfl) (own_w hw (i := 75) rfl) (own_w hw (i := 74) rfl) (by decide)) (own_w hw (i := 74) rfl) (own_w hw (i := 26) rfl) (own_w hw (i := 76) rfl) (by decide) (rm_infl hw G ob so  h0 O0 prem4 prem5 prem7) e0 (W := 0) (by decide) (by decide) (by decide) (by decide) prem2 (g := (mkF m 2 #[rv ob, iv 30, rv so] [(.ref so), (.ref ob)])) rfl (by rw [hml]; rfl) (a := ob) (argsL := [(.ref so)]) (rest := []) (lenOf pd27 rfl) rfl rfl (Nat.le_of_eq rfl) (D d9_2)
  obtain ⟨rfl, e786, rfl⟩ := q786
  have N786 := Fr.app N0 (Fr.nil _)
  obtain ⟨T787, X787, e787, st787⟩ := getF X786 hx hZ hown (host := "") (Or.inl (own_w hw (i := 32) rfl)) Via.refl e786 prem3 (g := (mkF m 7 #[rv ob, iv 30, rv so] [(.ref ob), (.ref so)])) rfl rfl (D d9_7)
  obtain ⟨T788, X788, e788, st788⟩ := getF X787 hx hZ hown (host := "") (Or.inl (own_w hw (i := 34) rfl)) Via.refl e787 prem4 (g := (mkF m 12 #[rv ob, iv 30, rv so] [(.ref ob), (.int 30), (.ref va), (.ref so)])) rfl rfl (D d9_12)
  obtain ⟨T789, v789, L789, X789, q789, st789⟩ := callVi X788 hx hZ (y := own_m25) (z := own_m25) hown (own_w hw (i := 78) rfl) (own_w hw (i := 79) rfl) (notFace_of_selects (args := #[]) (mvT hZ (own_w hw (i := 81) rfl))) (own_w hw (i := 81) rfl) (own_w hw (i := 80) rfl) (own_w hw (i := 82) rfl) (own_w hw (i := 4) rfl) (by decide) (rm_getb_30_34_70 hw G so va sv ks ts kv bs h0 O0 (prem0) (prem1) prem5 prem6 prem7 prem8 prem9 prem10) e788 (W := 0) (by decide) (by decide) (by decide) (by decide) prem5 (g := (mkF m 15 #[rv ob, iv 30, rv so] [(.int 0), (.int 30), (.ref va), (.ref so)])) rfl (by rw [hml]; rfl) (argsL := [(.ref va), (.int 30), (.int 0)]) (rest := []) (lenOf pd28 rfl) rfl rfl (Nat.le_of_eq rfl) (D d9_15)
  obtain ⟨rfl, N789q, K789q, p789_0⟩ := q789
  have N789 := Fr.app N786 N789q
  have O790 := Old0.keep O0 K789q (allS prem10 all0)
  have K790 := Keep.trans K0 K789q (allS (Or.inl (List.mem_of_getElem? (i := 0) rfl)) all0)
  refine Go.of (T' := T789) (f' := (mkF m 18 #[rv ob, iv 30, rv so] [])) (fun _ k => XS.aloadN X0.here hx rfl (D d9_0) rfl rfl (XS.aloadN X0.here hx rfl (D d9_1) rfl rfl (st786 _ (XS.aloadN X786.here hx rfl (D d9_5) rfl rfl (XS.aloadN X786.here hx rfl (D d9_6) rfl rfl (st787 _ (XS.iloadN X787.here hx rfl (D d9_10) rfl (XS.aloadN X787.here hx rfl (D d9_11) rfl rfl (st788 _ (st789 _ k)))))))))) ?_
  exact Go.retV X789 hx hlk hret (D d9_18) (by decide) (by decide) ⟨rfl, N789, K790, p789_0⟩
theorem ef_rm_aba_30_34_34 (m : MethodId) (ob : Addr) (so : Addr) : entryFrame m #[(.ref ob), (.ref so)] 3 = mkF m 0 #[rv ob, rv so, .unset] [] := by first | (simp [entryFrame, mkF, argsToLocals, Value.category]; done) | rfl
set_option maxRecDepth 65536 in
set_option maxHeartbeats 40000000 in
theorem rm_aba_30_34_34 {l : Launch} {Z : State} {a0 : Array Value} {A : Nat → Addr} {KC : Nat → Cell} {IC : Nat → Int32} {VC : Nat → Value} (hw : ∀ d ∈ tables_1, d.before a0 Z = true) (G : own_Ctx Z A KC IC VC) (ob : Addr) (so : Addr) (sv : Addr) (ks : ClassId) (ts : List Int32) (va : Addr) (kv : ClassId) (bs : List Int32) (h0 : Heap) (O0 : Ext Z.heap h0) (prem0 : bs.length = 30) (prem1 : ts.length = 34) (prem2 : Exa Z h0 ob "java/lang/StringBuilder") (prem3 : Fld Z h0 ob "java/lang/AbstractStringBuilder" "value" "[B" (.ref va)) (prem4 : Fld Z h0 ob "java/lang/AbstractStringBuilder" "coder" "B" (.int (0 : Int32))) (prem5 : Fld Z h0 ob "java/lang/AbstractStringBuilder" "count" "I" (.int (30 : Int32))) (prem6 : Exa Z h0 so "java/lang/String") (prem7 : Fld Z h0 so "java/lang/String" "value" "[B" (.ref sv)) (prem8 : Fld Z h0 so "java/lang/String" "coder" "B" (.int (0 : Int32))) (prem9 : Arv Z h0 sv ks .byte (34 : Int32) (ts.map Value.int) (.int (0 : Int32))) (prem10 : Arv Z h0 va kv .byte (34 : Int32) (bs.map Value.int) (.int (0 : Int32))) (prem11 : Z.heap.size ≤ ob) (prem12 : Z.heap.size ≤ va) (prem13 : ob ≠ va) (prem14 : so ≠ ob) (prem15 : sv ≠ ob) (prem16 : so ≠ va) (prem17 : sv ≠ va) :
    Ok l Z own_m33 jdk_68_method_22_code 3 (some (.object "java/lang/AbstractStringBuilder")) ({ frames := 4, cells := 1, slots := 70, locals := 62 } : Room) #[(.ref ob), (.ref so)] h0
      (fun v h L => ∃ vb : Addr, ∃ kb : ClassId, v = some (.ref ob) ∧ (Fr Z.heap.size L) ∧ (Keep h0 h [ob]) ∧ (h0.size ≤ vb) ∧ (Fld Z h ob "java/lang/AbstractStringBuilder" "value" "[B" (.ref vb)) ∧ (Fld Z h ob "java/lang/AbstractStringBuilder" "coder" "B" (.int (0 : Int32))) ∧ (Fld Z h ob "java/lang/AbstractStringBuilder" "count" "I" (.int (64 : Int32))) ∧ (Arv Z h vb kb .byte (70 : Int32) ((bs ++ ts).map Value.int) (.int (0 : Int32)))) := by
  refine Ok.mk pn34 ?_
  intro p e s m below meth c T0 hx hby hml hown hnm hret hlk hZ e0 X0
  refine Go.cast (ef_rm_aba_30_34_34 m ob so) ?_
  have D := @hb _ _ hby
  have N0 := Fr.nil Z.heap.size
  have K0 : Keep h0 h0 [ob] := Keep.refl _ _
  obtain ⟨T791, v791, L791, X791, q791, st791⟩ := callVi X0 hx hZ (y := own_m8) (z := own_m8) hown (own_w hw (i := 47) rfl) (own_w hw (i := 48) rfl) (notFace_of_selects (args := #[]) (mvT hZ (own_w hw (i := 50) rfl))) (own_w hw (i := 50) rfl) (own_w hw (i := 49) rfl) (own_w hw (i := 51) rfl) (own_w hw (i := 4) rfl) (by decide) (rm_len hw G so sv ks ((34 : Int32)) ts h0 O0 prem6 prem7 prem8 prem9 (by decide)) e0 (W := 0) (by decide) (by decide) (by decide) (by decide) prem6 (g := (mkF m 10 #[rv ob, rv so, .unset] [(.ref so)])) rfl (by rw [hml]; rfl) (argsL := []) (rest := []) (lenOf pd31 rfl) rfl rfl (Nat.le_of_eq rfl) (D d5_10)
  obtain ⟨rfl, e791, rfl⟩ := q791
  have N791 := Fr.app N0 (Fr.nil _)
  obtain ⟨T792, X792, e792, st792⟩ := getF X791 hx hZ hown (host := "") (Or.inl (own_w hw (i := 60) rfl)) Via.refl e791 prem5 (g := (mkF m 16 #[rv ob, rv so, iv 34] [(.ref ob), (.ref ob)])) rfl rfl (D d5_16)
  obtain ⟨T793, v793, L793, X793, q793, st793⟩ := callPr X792 hx hZ (y := own_m23) hown (own_w hw (i := 62) rfl) (own_w hw (i := 63) rfl) (own_selfsel (own_w hw (i := 63) rfl) (own_w hw (i := 65) rfl) (own_w hw (i := 64) rfl) (by decide)) (own_w hw (i := 64) rfl) (own_w hw (i := 26) rfl) (own_w hw (i := 66) rfl) (by decide) (rm_ecg_30_64_34 hw G ob va kv bs h0 O0 (prem0) prem2 prem3 prem4 prem10 prem11 prem5) e792 (W := 0) (by decide) (by decide) (by decide) (by decide) prem2 (g := (mkF m 21 #[rv ob, rv so, iv 34] [(.int 64), (.ref ob)])) rfl (by rw [hml]; rfl) (a := ob) (argsL := [(.int 64)]) (rest := []) (lenOf pd2 rfl) rfl rfl (Nat.le_of_eq rfl) (D d5_21)
  obtain ⟨vb_793, kb_793, rfl, N793q, K793q, p793_0, p793_1, p793_2, p793_3, p793_4⟩ := q793
  have N793 := Fr.app N791 N793q
  have O794 := Old0.keep O0 K793q (allS prem11 all0)
  have K794 := Keep.trans K0 K793q (allS (Or.inl (List.mem_of_getElem? (i := 0) rfl)) all0)
  have z_vb_793 : h0.size ≤ vb_793 := Nat.le_trans K0.1 p793_0
  have g_vb_793 : Z.heap.size ≤ vb_793 := Nat.le_trans O0.1 p793_0
  have ne_ob_vb_793 : ob ≠ vb_793 := Nat.ne_of_lt (Nat.lt_of_lt_of_le prem2.lt p793_0)
  have ne_so_vb_793 : so ≠ vb_793 := Nat.ne_of_lt (Nat.lt_of_lt_of_le prem6.lt p793_0)
  have ne_sv_vb_793 : sv ≠ vb_793 := Nat.ne_of_lt (Nat.lt_of_lt_of_le prem9.lt p793_0)
  have ne_va_vb_793 : va ≠ vb_793 := Nat.ne_of_lt (Nat.lt_of_lt_of_le prem10.lt p793_0)
  obtain ⟨T795, X795, e795, st795⟩ := getF X793 hx hZ hown (host := "") (Or.inl (own_w hw (i := 60) rfl)) Via.refl rfl p793_3 (g := (mkF m 26 #[rv ob, rv so, iv 34] [(.ref ob), (.ref ob)])) rfl rfl (D d5_26)
  have f797 : Exa Z T793.heap ob "java/lang/StringBuilder" := (Exa.keep prem2 K793q)
  have f798 : Exa Z T793.heap so "java/lang/String" := (Exa.keep prem6 K793q)
  have f799 : Fld Z T793.heap so "java/lang/String" "value" "[B" (.ref sv) := (Fld.keep prem7 K793q (ninS prem14 nin0))
  have f800 : Fld Z T793.heap so "java/lang/String" "coder" "B" (.int 0) := (Fld.keep prem8 K793q (ninS prem14 nin0))
  have f801 : Arv Z T793.heap sv ks .byte (34 : Int32) (ts.map Value.int) (.int 0) := (Arv.keep prem9 K793q (ninS prem15 nin0))
  obtain ⟨T796, v796, L796, X796, q796, st796⟩ := callPr X795 hx hZ (y := own_m29) hown (own_w hw (i := 67) rfl) (own_w hw (i := 68) rfl) (own_selfsel (own_w hw (i := 68) rfl) (own_w hw (i := 70) rfl) (own_w hw (i := 69) rfl) (by decide)) (own_w hw (i := 69) rfl) (own_w hw (i := 26) rfl) (own_w hw (i := 71) rfl) (by decide) (rm_put_30_34_70 hw G ob so sv ks ts vb_793 kb_793 bs T793.heap O794 (prem0) (prem1) f797 p793_1 p793_2 f798 f799 f800 f801 p793_4 g_vb_793) e795 (W := 0) (by decide) (by decide) (by decide) (by decide) f797 (g := (mkF m 30 #[rv ob, rv so, iv 34] [(.ref so), (.int 30), (.ref ob)])) rfl (by rw [hml]; rfl) (a := ob) (argsL := [(.int 30), (.ref so)]) (rest := []) (lenOf pd32 rfl) rfl rfl (Nat.le_of_eq rfl) (D d5_30)
  obtain ⟨rfl, N796q, K796q, p796_0⟩ := q796
  have N796 := Fr.app N793 N796q
  have O802 := Old0.keep O794 K796q (allS g_vb_793 all0)
  have K802 := Keep.trans K794 K796q (allS (Or.inr z_vb_793) all0)
  have f804 : Fld Z T796.heap ob "java/lang/AbstractStringBuilder" "count" "I" (.int 30) := (Fld.keep p793_3 K796q (ninS ne_ob_vb_793 nin0))
  obtain ⟨T803, X803, e803, st803⟩ := getF X796 hx hZ hown (host := "") (Or.inl (own_w hw (i := 60) rfl)) Via.refl rfl f804 (g := (mkF m 35 #[rv ob, rv so, iv 34] [(.ref ob), (.ref ob)])) rfl rfl (D d5_35)
  have f806 : Exa Z T796.heap ob "java/lang/StringBuilder" := (Exa.keep f797 K796q)
  obtain ⟨T805, h805, X805, e805, W805, st805⟩ := putF X803 hx hZ hown (host := "") (Or.inl (own_w hw (i := 60) rfl)) Via.refl e803 f804 f806 (Or.inl (own_w hw (i := 61) rfl)) (own_w hw (i := 17) rfl) (ty := .int) (by decide) rfl rfl (g := (mkF m 40 #[rv ob, rv so, iv 34] [(.int 64), (.ref ob)])) rfl rfl (D d5_40)
  have O807 := Old0.wr O802 W805 prem11
  have K807 := Keep.wr K802 W805 (Or.inl (List.mem_of_getElem? (i := 0) rfl))
  have N805 := Fr.snoc X805 N796 prem11
  have f805 : Fld Z h805 ob "java/lang/AbstractStringBuilder" "count" "I" (.int 64) := Fld.same W805 f804
  have f808 : Fld Z h805 ob "java/lang/AbstractStringBuilder" "value" "[B" (.ref vb_793) := (Fld.other W805 (Fld.keep p793_1 K796q (ninS ne_ob_vb_793 nin0)) (Or.inr (slot_ne (Or.inl (own_w hw (i := 33) rfl)) (Or.inl (own_w hw (i := 61) rfl)) (by decide) (t := (.array .byte)) (t' := .int) (by decide) (by decide))))
  have f809 : Fld Z h805 ob "java/lang/AbstractStringBuilder" "coder" "B" (.int 0) := (Fld.other W805 (Fld.keep p793_2 K796q (ninS ne_ob_vb_793 nin0)) (Or.inr (slot_ne (Or.inl (own_w hw (i := 35) rfl)) (Or.inl (own_w hw (i := 61) rfl)) (by decide) (t := .byte) (t' := .int) (by decide) (by decide))))
  have f810 : Arv Z h805 vb_793 kb_793 .byte (70 : Int32) ((bs ++ ts).map Value.int) (.int 0) := (Arv.other p796_0 W805 (Ne.symm ne_ob_vb_793))
  refine Go.of (T' := T805) (f' := (mkF m 44 #[rv ob, rv so, iv 34] [(.ref ob)])) (fun _ k => XS.aloadN X0.here hx rfl (D d5_0) rfl rfl (XS.ifnonnullYes X0.here hx rfl (pc0 := 1) (pc' := 9) rfl (D d5_1) rfl (by decide) (by decide) (XS.aloadN X0.here hx rfl (D d5_9) rfl rfl (st791 _ (XS.istoreN X791.here hx rfl (D d5_13) rfl (l' := #[rv ob, rv so, iv 34]) rfl (XS.aloadN X791.here hx rfl (D d5_14) rfl rfl (XS.aloadN X791.here hx rfl (D d5_15) rfl rfl (st792 _ (XS.iloadN X792.here hx rfl (D d5_19) rfl (XS.iadd X792.here hx rfl (D d5_20) rfl (st793 _ (XS.aloadN X793.here hx rfl (D d5_24) rfl rfl (XS.aloadN X793.here hx rfl (D d5_25) rfl rfl (st795 _ (XS.aloadN X795.here hx rfl (D d5_29) rfl rfl (st796 _ (XS.aloadN X796.here hx rfl (D d5_33) rfl rfl (XS.dup X796.here hx rfl (D d5_34) rfl rfl (st803 _ (XS.iloadN X803.here hx rfl (D d5_38) rfl (XS.iadd X803.here hx rfl (D d5_39) rfl (st805 _ (XS.aloadN X805.here hx rfl (D d5_43) rfl rfl k))))))))))))))))))))))) ?_
  exact Go.retA X805 hx hlk hret rfl rfl (D d5_44) (by decide) (by decide) (by rw [e805]; exact ⟨vb_793, kb_793, rfl, N805, K807, z_vb_793, f808, f809, f805, f810⟩)
theorem ef_rm_sba_30_34_34 (m : MethodId) (ob : Addr) (so : Addr) : entryFrame m #[(.ref ob), (.ref so)] 2 = mkF m 0 #[rv ob, rv so] [] := by first | (simp [entryFrame, mkF, argsToLocals, Value.category]; done) | rfl
set_option maxRecDepth 65536 in
set_option maxHeartbeats 40000000 in
theorem rm_sba_30_34_34 {l : Launch} {Z : State} {a0 : Array Value} {A : Nat → Addr} {KC : Nat → Cell} {IC : Nat → Int32} {VC : Nat → Value} (hw : ∀ d ∈ tables_1, d.before a0 Z = true) (G : own_Ctx Z A KC IC VC) (ob : Addr) (so : Addr) (sv : Addr) (ks : ClassId) (ts : List Int32) (va : Addr) (kv : ClassId) (bs : List Int32) (h0 : Heap) (O0 : Ext Z.heap h0) (prem0 : bs.length = 30) (prem1 : ts.length = 34) (prem2 : Exa Z h0 ob "java/lang/StringBuilder") (prem3 : Fld Z h0 ob "java/lang/AbstractStringBuilder" "value" "[B" (.ref va)) (prem4 : Fld Z h0 ob "java/lang/AbstractStringBuilder" "coder" "B" (.int (0 : Int32))) (prem5 : Fld Z h0 ob "java/lang/AbstractStringBuilder" "count" "I" (.int (30 : Int32))) (prem6 : Exa Z h0 so "java/lang/String") (prem7 : Fld Z h0 so "java/lang/String" "value" "[B" (.ref sv)) (prem8 : Fld Z h0 so "java/lang/String" "coder" "B" (.int (0 : Int32))) (prem9 : Arv Z h0 sv ks .byte (34 : Int32) (ts.map Value.int) (.int (0 : Int32))) (prem10 : Arv Z h0 va kv .byte (34 : Int32) (bs.map Value.int) (.int (0 : Int32))) (prem11 : Z.heap.size ≤ ob) (prem12 : Z.heap.size ≤ va) (prem13 : ob ≠ va) (prem14 : so ≠ ob) (prem15 : sv ≠ ob) (prem16 : so ≠ va) (prem17 : sv ≠ va) :
    Ok l Z own_m36 jdk_67_method_7_code 2 (some (.object "java/lang/StringBuilder")) ({ frames := 5, cells := 1, slots := 70, locals := 76 } : Room) #[(.ref ob), (.ref so)] h0
      (fun v h L => ∃ vb : Addr, ∃ kb : ClassId, v = some (.ref ob) ∧ (Fr Z.heap.size L) ∧ (Keep h0 h [ob]) ∧ (h0.size ≤ vb) ∧ (Fld Z h ob "java/lang/AbstractStringBuilder" "value" "[B" (.ref vb)) ∧ (Fld Z h ob "java/lang/AbstractStringBuilder" "coder" "B" (.int (0 : Int32))) ∧ (Fld Z h ob "java/lang/AbstractStringBuilder" "count" "I" (.int (64 : Int32))) ∧ (Arv Z h vb kb .byte (70 : Int32) ((bs ++ ts).map Value.int) (.int (0 : Int32)))) := by
  refine Ok.mk pn37 ?_
  intro p e s m below meth c T0 hx hby hml hown hnm hret hlk hZ e0 X0
  refine Go.cast (ef_rm_sba_30_34_34 m ob so) ?_
  have D := @hb _ _ hby
  have N0 := Fr.nil Z.heap.size
  have K0 : Keep h0 h0 [ob] := Keep.refl _ _
  obtain ⟨T811, v811, L811, X811, q811, st811⟩ := callSu X0 hx hZ (y := own_m33) hown (own_w hw (i := 42) rfl) (nf_mate (own_w hw (i := 65) rfl) rfl) (own_w hw (i := 43) rfl) (own_w hw (i := 44) rfl) (by decide) (own_w hw (i := 46) rfl) (own_w hw (i := 26) rfl) (by decide) (rm_aba_30_34_34 hw G ob so sv ks ts va kv bs h0 O0 (prem0) (prem1) prem2 prem3 prem4 prem5 prem6 prem7 prem8 prem9 prem10 prem11 prem12 prem13 prem14 prem15 prem16 prem17) e0 (W := 0) (by decide) (by decide) (by decide) (by decide) (Ins.self prem2) (g := (mkF m 2 #[rv ob, rv so] [(.ref so), (.ref ob)])) rfl (by rw [hml]; rfl) (argsL := [(.ref so)]) (rest := []) (lenOf pd35 rfl) rfl rfl (Nat.le_of_eq rfl) (D d4_2)
  obtain ⟨vb_811, kb_811, rfl, N811q, K811q, p811_0, p811_1, p811_2, p811_3, p811_4⟩ := q811
  have N811 := Fr.app N0 N811q
  have O812 := Old0.keep O0 K811q (allS prem11 all0)
  have K812 := Keep.trans K0 K811q (allS (Or.inl (List.mem_of_getElem? (i := 0) rfl)) all0)
  have z_vb_811 : h0.size ≤ vb_811 := Nat.le_trans K0.1 p811_0
  have g_vb_811 : Z.heap.size ≤ vb_811 := Nat.le_trans O0.1 p811_0
  have ne_ob_vb_811 : ob ≠ vb_811 := Nat.ne_of_lt (Nat.lt_of_lt_of_le prem2.lt p811_0)
  have ne_so_vb_811 : so ≠ vb_811 := Nat.ne_of_lt (Nat.lt_of_lt_of_le prem6.lt p811_0)
  have ne_sv_vb_811 : sv ≠ vb_811 := Nat.ne_of_lt (Nat.lt_of_lt_of_le prem9.lt p811_0)
  have ne_va_vb_811 : va ≠ vb_811 := Nat.ne_of_lt (Nat.lt_of_lt_of_le prem10.lt p811_0)
  refine Go.of (T' := T811) (f' := (mkF m 7 #[rv ob, rv so] [(.ref ob)])) (fun _ k => XS.aloadN X0.here hx rfl (D d4_0) rfl rfl (XS.aloadN X0.here hx rfl (D d4_1) rfl rfl (st811 _ (XT.pop X811.here hx rfl (D d4_5) rfl rfl (XS.aloadN X811.here hx rfl (D d4_6) rfl rfl k))))) ?_
  exact Go.retA X811 hx hlk hret rfl rfl (D d4_7) (by decide) (by decide) ⟨vb_811, kb_811, rfl, N811, K812, z_vb_811, p811_1, p811_2, p811_3, p811_4⟩
theorem ef_rm_all_64 (m : MethodId) (ob : Addr) : entryFrame m #[(.ref ob)] 1 = mkF m 0 #[rv ob] [] := by first | (simp [entryFrame, mkF, argsToLocals, Value.category]; done) | rfl
set_option maxRecDepth 65536 in
set_option maxHeartbeats 40000000 in
theorem rm_all_64 {l : Launch} {Z : State} {a0 : Array Value} {A : Nat → Addr} {KC : Nat → Cell} {IC : Nat → Int32} {VC : Nat → Value} (hw : ∀ d ∈ tables_1, d.before a0 Z = true) (G : own_Ctx Z A KC IC VC) (ob : Addr)  (h0 : Heap) (O0 : Ext Z.heap h0) (prem0 : Fld Z h0 ob "java/lang/AbstractStringBuilder" "count" "I" (.int (64 : Int32))) :
    Ok l Z own_m59 jdk_68_method_6_code 1 (some .int) ({ frames := 0, cells := 0, slots := 0, locals := 0 } : Room) #[(.ref ob)] h0
      (fun v h L => v = some (.int (64 : Int32)) ∧ (h = h0) ∧ (L = [])) := by
  refine Ok.mk pn60 ?_
  intro p e s m below meth c T0 hx hby hml hown hnm hret hlk hZ e0 X0
  refine Go.cast (ef_rm_all_64 m ob) ?_
  have D := @hb _ _ hby
  have N0 := Fr.nil Z.heap.size
  have K0 : Keep h0 h0 [] := Keep.refl _ _
  obtain ⟨T813, X813, e813, st813⟩ := getF X0 hx hZ hown (host := "") (Or.inl (own_w hw (i := 60) rfl)) Via.refl e0 prem0 (g := (mkF m 1 #[rv ob] [(.ref ob)])) rfl rfl (D d27_1)
  refine Go.of (T' := T813) (f' := (mkF m 4 #[rv ob] [(.int 64)])) (fun _ k => XS.aloadN X0.here hx rfl (D d27_0) rfl rfl (st813 _ k)) ?_
  exact Go.retI X813 hx hlk hret (D d27_4) (by decide) (by decide) (by rw [e813]; exact ⟨rfl, rfl, by simp⟩)
theorem ef_rm_sll_64 (m : MethodId) (ob : Addr) : entryFrame m #[(.ref ob)] 1 = mkF m 0 #[rv ob] [] := by first | (simp [entryFrame, mkF, argsToLocals, Value.category]; done) | rfl
set_option maxRecDepth 65536 in
set_option maxHeartbeats 40000000 in
theorem rm_sll_64 {l : Launch} {Z : State} {a0 : Array Value} {A : Nat → Addr} {KC : Nat → Cell} {IC : Nat → Int32} {VC : Nat → Value} (hw : ∀ d ∈ tables_1, d.before a0 Z = true) (G : own_Ctx Z A KC IC VC) (ob : Addr)  (h0 : Heap) (O0 : Ext Z.heap h0) (prem0 : Exa Z h0 ob "java/lang/StringBuilder") (prem1 : Fld Z h0 ob "java/lang/AbstractStringBuilder" "count" "I" (.int (64 : Int32))) :
    Ok l Z own_m61 jdk_67_method_93_code 1 (some .int) ({ frames := 1, cells := 0, slots := 0, locals := 12 } : Room) #[(.ref ob)] h0
      (fun v h L => v = some (.int (64 : Int32)) ∧ (h = h0) ∧ (L = [])) := by
  refine Ok.mk pn62 ?_
  intro p e s m below meth c T0 hx hby hml hown hnm hret hlk hZ e0 X0
  refine Go.cast (ef_rm_sll_64 m ob) ?_
  have D := @hb _ _ hby
  have N0 := Fr.nil Z.heap.size
  have K0 : Keep h0 h0 [] := Keep.refl _ _
  obtain ⟨T814, v814, L814, X814, q814, st814⟩ := callSu X0 hx hZ (y := own_m59) hown (own_w hw (i := 167) rfl) (nf_mate (own_w hw (i := 65) rfl) rfl) (own_w hw (i := 163) rfl) (own_w hw (i := 44) rfl) (by decide) (own_w hw (i := 168) rfl) (own_w hw (i := 26) rfl) (by decide) (rm_all_64 hw G ob  h0 O0 prem1) e0 (W := 0) (by decide) (by decide) (by decide) (by decide) (Ins.self prem0) (g := (mkF m 1 #[rv ob] [(.ref ob)])) rfl (by rw [hml]; rfl) (argsL := []) (rest := []) (lenOf pd31 rfl) rfl rfl (Nat.le_of_eq rfl) (D d26_1)
  obtain ⟨rfl, e814, rfl⟩ := q814
  have N814 := Fr.app N0 (Fr.nil _)
  refine Go.of (T' := T814) (f' := (mkF m 4 #[rv ob] [(.int 64)])) (fun _ k => XS.aloadN X0.here hx rfl (D d26_0) rfl rfl (st814 _ k)) ?_
  exact Go.retI X814 hx hlk hret (D d26_4) (by decide) (by decide) (by rw [e814]; exact ⟨rfl, rfl, by simp⟩)
theorem ef_rm_ckl_64 (m : MethodId)  : entryFrame m #[(.int (0 : Int32)), (.int (64 : Int32))] 2 = mkF m 0 #[iv (0 : Int32), iv (64 : Int32)] [] := by first | (simp [entryFrame, mkF, argsToLocals, Value.category]; done) | rfl
set_option maxRecDepth 65536 in
set_option maxHeartbeats 40000000 in
theorem rm_ckl_64 {l : Launch} {Z : State} {a0 : Array Value} {A : Nat → Addr} {KC : Nat → Cell} {IC : Nat → Int32} {VC : Nat → Value} (hw : ∀ d ∈ tables_1, d.before a0 Z = true) (G : own_Ctx Z A KC IC VC)   (h0 : Heap) (O0 : Ext Z.heap h0)  :
    Ok l Z own_m63 jdk_65_method_131_code 2 none ({ frames := 0, cells := 0, slots := 0, locals := 0 } : Room) #[(.int (0 : Int32)), (.int (64 : Int32))] h0
      (fun v h L => v = none ∧ (h = h0) ∧ (L = [])) := by
  refine Ok.mk pn64 ?_
  intro p e s m below meth c T0 hx hby hml hown hnm hret hlk hZ e0 X0
  refine Go.cast (ef_rm_ckl_64 m ) ?_
  have D := @hb _ _ hby
  have N0 := Fr.nil Z.heap.size
  have K0 : Keep h0 h0 [] := Keep.refl _ _
  refine Go.of (T' := T0) (f' := (mkF m 37 #[iv 0, iv 64] [])) (fun _ k => XS.iloadN X0.here hx rfl (D d30_0) rfl (XS.iloadN X0.here hx rfl (D d30_1) rfl (XS.icmpYes X0.here hx rfl (pc0 := 2) (pc' := 37) rfl (D d30_2) rfl (flt (by decide : ¬ ((64 : Int32) < (0 : Int32)))).2.1 (by decide) (by decide) k))) ?_
  exact Go.retV X0 hx hlk hret (D d30_37) (by decide) (by decide) (by rw [e0]; exact ⟨rfl, rfl, by simp⟩)
theorem ef_rm_min_70_64 (m : MethodId)  : entryFrame m #[(.int (70 : Int32)), (.int (64 : Int32))] 2 = mkF m 0 #[iv (70 : Int32), iv (64 : Int32)] [] := by first | (simp [entryFrame, mkF, argsToLocals, Value.category]; done) | rfl
set_option maxRecDepth 65536 in
set_option maxHeartbeats 40000000 in
theorem rm_min_70_64 {l : Launch} {Z : State} {a0 : Array Value} {A : Nat → Addr} {KC : Nat → Cell} {IC : Nat → Int32} {VC : Nat → Value} (hw : ∀ d ∈ tables_1, d.before a0 Z = true) (G : own_Ctx Z A KC IC VC)   (h0 : Heap) (O0 : Ext Z.heap h0)  :
    Ok l Z own_m45 jdk_29_method_69_code 2 (some .int) ({ frames := 0, cells := 0, slots := 0, locals := 0 } : Room) #[(.int (70 : Int32)), (.int (64 : Int32))] h0
      (fun v h L => v = some (.int (64 : Int32)) ∧ (h = h0) ∧ (L = [])) := by
  refine Ok.mk pn_java_lang_Math_min__II_I ?_
  intro p e s m below meth c T0 hx hby hml hown hnm hret hlk hZ e0 X0
  refine Go.cast (ef_rm_min_70_64 m ) ?_
  have D := @hb _ _ hby
  have N0 := Fr.nil Z.heap.size
  have K0 : Keep h0 h0 [] := Keep.refl _ _
  refine Go.of (T' := T0) (f' := (mkF m 10 #[iv 70, iv 64] [(.int 64)])) (fun _ k => XS.iloadN X0.here hx rfl (D d19_0) rfl (XS.iloadN X0.here hx rfl (D d19_1) rfl (XS.icmpYes X0.here hx rfl (pc0 := 2) (pc' := 9) rfl (D d19_2) rfl (tlt (by decide : (64 : Int32) < (70 : Int32))).2.2.1 (by decide) (by decide) (XS.iloadN X0.here hx rfl (D d19_9) rfl k)))) ?_
  exact Go.retI X0 hx hlk hret (D d19_10) (by decide) (by decide) (by rw [e0]; exact ⟨rfl, rfl, by simp⟩)
theorem ef_rm_corb_64 (m : MethodId) (va : Addr) : entryFrame m #[(.ref va), (.int (0 : Int32)), (.int (64 : Int32))] 5 = mkF m 0 #[rv va, iv (0 : Int32), iv (64 : Int32), .unset, .unset] [] := by first | (simp [entryFrame, mkF, argsToLocals, Value.category]; done) | rfl
set_option maxRecDepth 65536 in
set_option maxHeartbeats 40000000 in
theorem rm_corb_64 {l : Launch} {Z : State} {a0 : Array Value} {A : Nat → Addr} {KC : Nat → Cell} {IC : Nat → Int32} {VC : Nat → Value} (hw : ∀ d ∈ tables_1, d.before a0 Z = true) (G : own_Ctx Z A KC IC VC) (va : Addr) (kv : ClassId) (bs : List Int32) (h0 : Heap) (O0 : Ext Z.heap h0) (prem0 : bs.length = 64) (prem1 : Arv Z h0 va kv .byte (70 : Int32) (bs.map Value.int) (.int (0 : Int32))) :
    Ok l Z own_m66 jdk_65_method_133_code 5 (some (.array .byte)) ({ frames := 1, cells := 1, slots := 64, locals := 18 } : Room) #[(.ref va), (.int (0 : Int32)), (.int (64 : Int32))] h0
      (fun v h L => ∃ vb : Addr, ∃ kb : ClassId, v = some (.ref vb) ∧ (Fr Z.heap.size L) ∧ (Keep h0 h []) ∧ (h0.size ≤ vb) ∧ (Arv Z h vb kb .byte (64 : Int32) (bs.map Value.int) (.int (0 : Int32))) ∧ (Exa Z h vb "[B")) := by
  refine Ok.mk pn67 ?_
  intro p e s m below meth c T0 hx hby hml hown hnm hret hlk hZ e0 X0
  refine Go.cast (ef_rm_corb_64 m va) ?_
  have D := @hb _ _ hby
  have N0 := Fr.nil Z.heap.size
  have K0 : Keep h0 h0 [] := Keep.refl _ _
  obtain ⟨T817, v817, L817, X817, q817, st817⟩ := callSt X0 hx hZ (y := own_m63) hown (own_w hw (i := 176) rfl) (own_w hw (i := 177) rfl) (own_w hw (i := 122) rfl) (own_w hw (i := 178) rfl) (by decide) (rm_ckl_64 hw G   h0 O0 ) e0 (W := 0) (by decide) (by decide) (by decide) (by decide) (g := (mkF m 2 #[rv va, iv 0, iv 64, .unset, .unset] [(.int 64), (.int 0)])) rfl (by rw [hml]; rfl) (argsL := [(.int 0), (.int 64)]) (rest := []) (lenOf pd65 rfl) rfl rfl (Nat.le_of_eq rfl) (D d29_2)
  obtain ⟨rfl, e817, rfl⟩ := q817
  have N817 := Fr.app N0 (Fr.nil _)
  obtain ⟨T818, h818, k818, b818, q818, X818, e818, E818, V818, A818, st818⟩ := newAr X817 hx hZ (own_w hw (i := 6) rfl) e817 (g := (mkF m 10 #[rv va, iv 0, iv 64, iv 64, .unset] [(.int 64)])) rfl (D d29_10) rfl (by decide) (cap := 64) (by decide) (by decide) (by decide) (by decide) (ad := "[B") (by decide)
  have O819 := Old0.ext O0 E818
  have K819 := Keep.ext K0 E818
  have g_b818 : Z.heap.size ≤ b818 := q818 ▸ O0.1
  have z_b818 : h0.size ≤ b818 := q818 ▸ K0.1
  have ne_va_b818 : va ≠ b818 := q818 ▸ Nat.ne_of_lt prem1.lt
  have f820 : Arv Z h818 b818 k818 .byte (64 : Int32) [(.int 0), (.int 0), (.int 0), (.int 0), (.int 0), (.int 0), (.int 0), (.int 0), (.int 0), (.int 0), (.int 0), (.int 0), (.int 0), (.int 0), (.int 0), (.int 0), (.int 0), (.int 0), (.int 0), (.int 0), (.int 0), (.int 0), (.int 0), (.int 0), (.int 0), (.int 0), (.int 0), (.int 0), (.int 0), (.int 0), (.int 0), (.int 0), (.int 0), (.int 0), (.int 0), (.int 0), (.int 0), (.int 0), (.int 0), (.int 0), (.int 0), (.int 0), (.int 0), (.int 0), (.int 0), (.int 0), (.int 0), (.int 0), (.int 0), (.int 0), (.int 0), (.int 0), (.int 0), (.int 0), (.int 0), (.int 0), (.int 0), (.int 0), (.int 0), (.int 0), (.int 0), (.int 0), (.int 0), (.int 0)] (.int 0) := Arv.pad V818 (pad_rep [] (.int 0) 64)
  have fz821 : Arv Z h818 b818 k818 .byte (64 : Int32) (([] : List Int32).map Value.int) (.int 0) := Arv.pad f820 (fun i => (pad_rep [] (.int 0) 64 i).symm)
  have f823 : Arv Z h818 va kv .byte (70 : Int32) (bs.map Value.int) (.int 0) := (Arv.ext prem1 E818)
  obtain ⟨cl822, Ar822, qk822, S822, Ng822, H822, G822⟩ := id f823
  obtain ⟨T824, v824, L824, X824, q824, st824⟩ := callSt X818 hx hZ (y := own_m45) hown (own_w hw (i := 124) rfl) (own_w hw (i := 125) rfl) (own_w hw (i := 116) rfl) (own_w hw (i := 126) rfl) (by decide) (rm_min_70_64 hw G   h818 O819 ) e818 (W := 4) (by decide) (by decide) (by decide) (by decide) (g := (mkF m 24 #[rv va, iv 0, iv 64, iv 64, rv b818] [(.int 64), (.int 70), (.int 0), (.ref b818), (.int 0), (.ref va)])) rfl (by rw [hml]; rfl) (argsL := [(.int 70), (.int 64)]) (rest := [(.int 0), (.ref b818), (.int 0), (.ref va)]) (lenOf pd39 rfl) rfl rfl (Nat.le_of_eq rfl) (D d29_24)
  obtain ⟨rfl, e824, rfl⟩ := q824
  have N824 := Fr.app N817 (Fr.nil _)
  obtain ⟨T825, h825, L825, X825, e825, N825, Kq825, V825, st825⟩ := own_cpG X824 hx hZ hown (own_w hw (i := 127) rfl) (own_w hw (i := 86) rfl) (own_w hw (i := 84) rfl) (own_w hw (i := 85) rfl) e824 f823 fz821 (dp := (0 : Int32)) (nn := (64 : Int32)) (by decide) (by decide) (by decide) (by rw [prem0]; decide) (by decide) (by decide) N824 g_b818 (g := (mkF m 27 #[rv va, iv 0, iv 64, iv 64, rv b818] [(.int 64), (.int 0), (.ref b818), (.int 0), (.ref va)])) rfl (by rw [hml]; rfl) rfl (D d29_27) (by decide) (W := 0) (Nat.le_of_eq rfl) (by decide)
  have O826 := Old0.keep O819 Kq825 (allS g_b818 all0)
  have K826 := Keep.trans K819 Kq825 (allS (Or.inr z_b818) all0)
  have f827 : Exa Z h825 b818 "[B" := (Exa.keep A818 Kq825)
  refine Go.of (T' := T825) (f' := (mkF m 32 #[rv va, iv 0, iv 64, iv 64, rv b818] [(.ref b818)])) (fun _ k => XS.iloadN X0.here hx rfl (D d29_0) rfl (XS.iloadN X0.here hx rfl (D d29_1) rfl (st817 _ (XS.iloadN X817.here hx rfl (D d29_5) rfl (XS.iloadN X817.here hx rfl (D d29_6) rfl (XS.isub X817.here hx rfl (D d29_7) rfl (XS.istoreN X817.here hx rfl (D d29_8) rfl (l' := #[rv va, iv 0, iv 64, iv 64, .unset]) rfl (XS.iloadN X817.here hx rfl (D d29_9) rfl (st818 _ (XS.astore X818.here hx rfl (D d29_12) rfl rfl (l' := #[rv va, iv 0, iv 64, iv 64, rv b818]) rfl (XS.aloadN X818.here hx rfl (D d29_14) rfl rfl (XS.iloadN X818.here hx rfl (D d29_15) rfl (XS.aload X818.here hx rfl (D d29_16) rfl rfl (XS.iconst X818.here hx rfl (D d29_18) (XS.aloadN X818.here hx rfl (D d29_19) rfl rfl (X818.arraylength hx (by rw [e818]; exact Ar822.1) (State.isArrayOf_alike hZ.alike Ar822.2.1) (g := (mkF m 20 #[rv va, iv 0, iv 64, iv 64, rv b818] [(.ref va), (.int 0), (.ref b818), (.int 0), (.ref va)])) rfl rfl (D d29_20) _ (by rw [len_of S822 Ng822]; exact (XS.iloadN X818.here hx rfl (D d29_21) rfl (XS.isub X818.here hx rfl (D d29_22) rfl (XS.iloadN X818.here hx rfl (D d29_23) rfl (st824 _ (st825 _ (XS.aload X825.here hx rfl (D d29_30) rfl rfl k))))))))))))))))))))))) ?_
  exact Go.retA X825 hx hlk hret rfl rfl (D d29_32) (by decide) (by decide) (by rw [e825]; exact ⟨b818, k818, rfl, N825, K826, z_b818, V825, f827⟩)
theorem ef_rm_cor_64 (m : MethodId) (va : Addr) : entryFrame m #[(.ref va), (.int (0 : Int32)), (.int (64 : Int32))] 3 = mkF m 0 #[rv va, iv (0 : Int32), iv (64 : Int32)] [] := by first | (simp [entryFrame, mkF, argsToLocals, Value.category]; done) | rfl
set_option maxRecDepth 65536 in
set_option maxHeartbeats 40000000 in
theorem rm_cor_64 {l : Launch} {Z : State} {a0 : Array Value} {A : Nat → Addr} {KC : Nat → Cell} {IC : Nat → Int32} {VC : Nat → Value} (hw : ∀ d ∈ tables_1, d.before a0 Z = true) (G : own_Ctx Z A KC IC VC) (va : Addr) (kv : ClassId) (bs : List Int32) (h0 : Heap) (O0 : Ext Z.heap h0) (prem0 : bs.length = 64) (prem1 : Arv Z h0 va kv .byte (70 : Int32) (bs.map Value.int) (.int (0 : Int32))) :
    Ok l Z own_m69 jdk_65_method_132_code 3 (some (.array .byte)) ({ frames := 2, cells := 1, slots := 64, locals := 34 } : Room) #[(.ref va), (.int (0 : Int32)), (.int (64 : Int32))] h0
      (fun v h L => ∃ vb : Addr, ∃ kb : ClassId, v = some (.ref vb) ∧ (Fr Z.heap.size L) ∧ (Keep h0 h []) ∧ (h0.size ≤ vb) ∧ (Arv Z h vb kb .byte (64 : Int32) (bs.map Value.int) (.int (0 : Int32))) ∧ (Exa Z h vb "[B")) := by
  refine Ok.mk pn70 ?_
  intro p e s m below meth c T0 hx hby hml hown hnm hret hlk hZ e0 X0
  refine Go.cast (ef_rm_cor_64 m va) ?_
  have D := @hb _ _ hby
  have N0 := Fr.nil Z.heap.size
  have K0 : Keep h0 h0 [] := Keep.refl _ _
  obtain ⟨cl829, Ar829, qk829, S829, Ng829, H829, G829⟩ := id prem1
  obtain ⟨T831, v831, L831, X831, q831, st831⟩ := callSt X0 hx hZ (y := own_m66) hown (own_w hw (i := 173) rfl) (own_w hw (i := 174) rfl) (own_w hw (i := 122) rfl) (own_w hw (i := 175) rfl) (by decide) (rm_corb_64 hw G va kv bs h0 O0 (prem0) prem1) e0 (W := 0) (by decide) (by decide) (by decide) (by decide) (g := (mkF m 13 #[rv va, iv 0, iv 64] [(.int 64), (.int 0), (.ref va)])) rfl (by rw [hml]; rfl) (argsL := [(.ref va), (.int 0), (.int 64)]) (rest := []) (lenOf pd68 rfl) rfl rfl (Nat.le_of_eq rfl) (D d28_13)
  obtain ⟨vb_831, kb_831, rfl, N831q, K831q, p831_0, p831_1, p831_2⟩ := q831
  have N831 := Fr.app N0 N831q
  have O832 := Old0.keep O0 K831q all0
  have K832 := Keep.trans K0 K831q all0
  have z_vb_831 : h0.size ≤ vb_831 := Nat.le_trans K0.1 p831_0
  have g_vb_831 : Z.heap.size ≤ vb_831 := Nat.le_trans O0.1 p831_0
  have ne_va_vb_831 : va ≠ vb_831 := Nat.ne_of_lt (Nat.lt_of_lt_of_le prem1.lt p831_0)
  refine Go.of (T' := T831) (f' := (mkF m 16 #[rv va, iv 0, iv 64] [(.ref vb_831)])) (fun _ k => XS.iloadN X0.here hx rfl (D d28_0) rfl (XS.ifNo X0.here hx rfl (D d28_1) rfl ((if0 _ _).trans (teq (by decide : (0 : Int32) = (0 : Int32))).2) (XS.iloadN X0.here hx rfl (D d28_4) rfl (XS.aloadN X0.here hx rfl (D d28_5) rfl rfl (X0.arraylength hx (by rw [e0]; exact Ar829.1) (State.isArrayOf_alike hZ.alike Ar829.2.1) (g := (mkF m 6 #[rv va, iv 0, iv 64] [(.ref va), (.int 64)])) rfl rfl (D d28_6) _ (by rw [len_of S829 Ng829]; exact (XS.icmpNo X0.here hx rfl (D d28_7) rfl (feq (by decide : ¬ ((64 : Int32) = (70 : Int32)))).1 (XS.aloadN X0.here hx rfl (D d28_10) rfl rfl (XS.iloadN X0.here hx rfl (D d28_11) rfl (XS.iloadN X0.here hx rfl (D d28_12) rfl (st831 _ k))))))))))) ?_
  exact Go.retA X831 hx hlk hret rfl rfl (D d28_16) (by decide) (by decide) ⟨vb_831, kb_831, rfl, N831, K832, z_vb_831, p831_1, p831_2⟩
theorem ef_rm_si1_64 (m : MethodId) (so : Addr) (ob : Addr) : entryFrame m #[(.ref so), (.ref ob), .null] 5 = mkF m 0 #[rv so, rv ob, .val .null, .unset, .unset] [] := by first | (simp [entryFrame, mkF, argsToLocals, Value.category]; done) | rfl
set_option maxRecDepth 65536 in
set_option maxHeartbeats 40000000 in
theorem rm_si1_64 {l : Launch} {Z : State} {a0 : Array Value} {A : Nat → Addr} {KC : Nat → Cell} {IC : Nat → Int32} {VC : Nat → Value} (hw : ∀ d ∈ tables_1, d.before a0 Z = true) (G : own_Ctx Z A KC IC VC) (so : Addr) (ob : Addr) (va : Addr) (kv : ClassId) (bs : List Int32) (h0 : Heap) (O0 : Ext Z.heap h0) (prem0 : bs.length = 64) (prem1 : Exa Z h0 so "java/lang/String") (prem2 : Fld Z h0 so "java/lang/String" "value" "[B" .null) (prem3 : Fld Z h0 so "java/lang/String" "coder" "B" (.int (0 : Int32))) (prem4 : Z.heap.size ≤ so) (prem5 : Exa Z h0 ob "java/lang/StringBuilder") (prem6 : Fld Z h0 ob "java/lang/AbstractStringBuilder" "value" "[B" (.ref va)) (prem7 : Fld Z h0 ob "java/lang/AbstractStringBuilder" "coder" "B" (.int (0 : Int32))) (prem8 : Fld Z h0 ob "java/lang/AbstractStringBuilder" "count" "I" (.int (64 : Int32))) (prem9 : Arv Z h0 va kv .byte (70 : Int32) (bs.map Value.int) (.int (0 : Int32))) (prem10 : so ≠ ob) (prem11 : so ≠ va) :
    Ok l Z own_m72 jdk_42_method_150_code 5 none ({ frames := 3, cells := 1, slots := 64, locals := 49 } : Room) #[(.ref so), (.ref ob), .null] h0
      (fun v h L => ∃ vb : Addr, ∃ kb : ClassId, v = none ∧ (Fr Z.heap.size L) ∧ (Keep h0 h [so]) ∧ (h0.size ≤ vb) ∧ (Fld Z h so "java/lang/String" "value" "[B" (.ref vb)) ∧ (Fld Z h so "java/lang/String" "coder" "B" (.int (0 : Int32))) ∧ (Arv Z h vb kb .byte (64 : Int32) (bs.map Value.int) (.int (0 : Int32)))) := by
  refine Ok.mk pn73 ?_
  intro p e s m below meth c T0 hx hby hml hown hnm hret hlk hZ e0 X0
  refine Go.cast (ef_rm_si1_64 m so ob) ?_
  have D := @hb _ _ hby
  have N0 := Fr.nil Z.heap.size
  have K0 : Keep h0 h0 [so] := Keep.refl _ _
  obtain ⟨T833, X833, e833, st833⟩ := initO X0 hx hZ hown (own_w hw (i := 155) rfl) (own_w hw (i := 29) rfl) (own_w hw (i := 30) rfl) e0 (g := (mkF m 1 #[rv so, rv ob, .val .null, .unset, .unset] [(.ref so)])) rfl (by rw [hml]; rfl) rfl (D d24_1) (by decide) (W := 0) (Nat.le_of_eq rfl) (by decide)
  obtain ⟨T834, v834, L834, X834, q834, st834⟩ := callVi X833 hx hZ (y := own_m16) (z := own_m16) hown (own_w hw (i := 156) rfl) (own_w hw (i := 157) rfl) (notFace_of_selects (args := #[]) (mvT hZ (own_w hw (i := 159) rfl))) (own_w hw (i := 159) rfl) (own_w hw (i := 158) rfl) (own_w hw (i := 160) rfl) (own_w hw (i := 26) rfl) (by decide) (rm_gv hw G ob va h0 O0 prem6) e833 (W := 0) (by decide) (by decide) (by decide) (by decide) prem5 (g := (mkF m 5 #[rv so, rv ob, .val .null, .unset, .unset] [(.ref ob)])) rfl (by rw [hml]; rfl) (argsL := []) (rest := []) (lenOf pd71 rfl) rfl rfl (Nat.le_of_eq rfl) (D d24_5)
  obtain ⟨rfl, e834, rfl⟩ := q834
  have N834 := Fr.app N0 (Fr.nil _)
  obtain ⟨T835, v835, L835, X835, q835, st835⟩ := callVi X834 hx hZ (y := own_m59) (z := own_m61) hown (own_w hw (i := 161) rfl) (own_w hw (i := 162) rfl) (nf_mate (args := #[]) (mvT hZ (own_w hw (i := 65) rfl)) rfl) (own_w hw (i := 164) rfl) (own_w hw (i := 165) rfl) (own_w hw (i := 166) rfl) (own_w hw (i := 18) rfl) (by decide) (rm_sll_64 hw G ob  h0 O0 prem5 prem8) e834 (W := 0) (by decide) (by decide) (by decide) (by decide) prem5 (g := (mkF m 10 #[rv so, rv ob, .val .null, rv va, .unset] [(.ref ob)])) rfl (by rw [hml]; rfl) (argsL := []) (rest := []) (lenOf pd31 rfl) rfl rfl (Nat.le_of_eq rfl) (D d24_10)
  obtain ⟨rfl, e835, rfl⟩ := q835
  have N835 := Fr.app N834 (Fr.nil _)
  obtain ⟨T836, v836, L836, X836, q836, st836⟩ := callVi X835 hx hZ (y := own_m14) (z := own_m14) hown (own_w hw (i := 169) rfl) (own_w hw (i := 129) rfl) (notFace_of_selects (args := #[]) (mvT hZ (own_w hw (i := 131) rfl))) (own_w hw (i := 131) rfl) (own_w hw (i := 130) rfl) (own_w hw (i := 132) rfl) (own_w hw (i := 26) rfl) (by decide) (rm_lat hw G ob  h0 O0 prem7) e835 (W := 0) (by decide) (by decide) (by decide) (by decide) prem5 (g := (mkF m 16 #[rv so, rv ob, .val .null, rv va, iv 64] [(.ref ob)])) rfl (by rw [hml]; rfl) (argsL := []) (rest := []) (lenOf pd52 rfl) rfl rfl (Nat.le_of_eq rfl) (D d24_16)
  obtain ⟨rfl, e836, rfl⟩ := q836
  have N836 := Fr.app N835 (Fr.nil _)
  obtain ⟨T838, h838, X838, e838, W838, st838⟩ := putFN X836 hx hZ hown (own_w hw (i := 59) rfl) Via.refl e836 prem3 prem1 (Or.inr ⟨(own_w hw (i := 8) rfl), rfl, hnm⟩) (own_w hw (i := 5) rfl) (ty := .byte) (v' := (.int 0)) (by decide) rfl rfl (g := (mkF m 24 #[rv so, rv ob, .val .null, rv va, iv 64] [(.int 0), (.ref so)])) rfl rfl (D d24_24)
  have O839 := Old0.wr O0 W838 prem4
  have K839 := Keep.wr K0 W838 (Or.inl (List.mem_of_getElem? (i := 0) rfl))
  have N838 := Fr.snoc X838 N836 prem4
  have f838 : Fld Z h838 so "java/lang/String" "coder" "B" (.int 0) := Fld.same W838 prem3
  have f841 : Arv Z h838 va kv .byte (70 : Int32) (bs.map Value.int) (.int 0) := (Arv.other prem9 W838 (Ne.symm prem11))
  have f842 : Exa Z h838 so "java/lang/String" := (Exa.wr W838 prem1)
  have f843 : Exa Z h838 ob "java/lang/StringBuilder" := (Exa.wr W838 prem5)
  obtain ⟨T840, v840, L840, X840, q840, st840⟩ := callSt X838 hx hZ (y := own_m69) hown (own_w hw (i := 170) rfl) (own_w hw (i := 171) rfl) (own_w hw (i := 122) rfl) (own_w hw (i := 172) rfl) (by decide) (rm_cor_64 hw G va kv bs h838 O839 (prem0) f841) e838 (W := 1) (by decide) (by decide) (by decide) (by decide) (g := (mkF m 32 #[rv so, rv ob, .val .null, rv va, iv 64] [(.int 64), (.int 0), (.ref va), (.ref so)])) rfl (by rw [hml]; rfl) (argsL := [(.ref va), (.int 0), (.int 64)]) (rest := [(.ref so)]) (lenOf pd68 rfl) rfl rfl (Nat.le_of_eq rfl) (D d24_32)
  obtain ⟨vb_840, kb_840, rfl, N840q, K840q, p840_0, p840_1, p840_2⟩ := q840
  have N840 := Fr.app N838 N840q
  have O844 := Old0.keep O839 K840q all0
  have K844 := Keep.trans K839 K840q all0
  have z_vb_840 : h0.size ≤ vb_840 := Nat.le_trans K839.1 p840_0
  have g_vb_840 : Z.heap.size ≤ vb_840 := Nat.le_trans O839.1 p840_0
  have ne_so_vb_840 : so ≠ vb_840 := Nat.ne_of_lt (Nat.lt_of_lt_of_le f842.lt p840_0)
  have ne_ob_vb_840 : ob ≠ vb_840 := Nat.ne_of_lt (Nat.lt_of_lt_of_le f843.lt p840_0)
  have ne_va_vb_840 : va ≠ vb_840 := Nat.ne_of_lt (Nat.lt_of_lt_of_le f841.lt p840_0)
  have f846 : Exa Z T840.heap so "java/lang/String" := (Exa.keep f842 K840q)
  have f847 : Fld Z T840.heap so "java/lang/String" "value" "[B" .null := (Fld.keep (Fld.other W838 prem2 (Or.inr (slot_ne (Or.inr (own_w hw (i := 7) rfl)) (Or.inr (own_w hw (i := 8) rfl)) (by decide) (t := (.array .byte)) (t' := .byte) (by decide) (by decide)))) K840q nin0)
  obtain ⟨T845, h845, X845, e845, W845, st845⟩ := putF X840 hx hZ hown (host := "") (Or.inl (own_w hw (i := 52) rfl)) Via.refl rfl f847 f846 (Or.inr ⟨(own_w hw (i := 7) rfl), rfl, hnm⟩) (own_w hw (i := 5) rfl) (ty := (.array .byte)) (by decide) rfl rfl (g := (mkF m 35 #[rv so, rv ob, .val .null, rv va, iv 64] [(.ref vb_840), (.ref so)])) rfl rfl (D d24_35)
  have O848 := Old0.wr O844 W845 prem4
  have K848 := Keep.wr K844 W845 (Or.inl (List.mem_of_getElem? (i := 0) rfl))
  have N845 := Fr.snoc X845 N840 prem4
  have f845 : Fld Z h845 so "java/lang/String" "value" "[B" (.ref vb_840) := Fld.same W845 f847
  have f849 : Fld Z h845 so "java/lang/String" "coder" "B" (.int 0) := (Fld.other W845 (Fld.keep f838 K840q nin0) (Or.inr (slot_ne (Or.inr (own_w hw (i := 8) rfl)) (Or.inr (own_w hw (i := 7) rfl)) (by decide) (t := .byte) (t' := (.array .byte)) (by decide) (by decide))))
  have f850 : Arv Z h845 vb_840 kb_840 .byte (64 : Int32) (bs.map Value.int) (.int 0) := (Arv.other p840_1 W845 (Ne.symm ne_so_vb_840))
  refine Go.of (T' := T845) (f' := (mkF m 97 #[rv so, rv ob, .val .null, rv va, iv 64] [])) (fun _ k => XS.aloadN X0.here hx rfl (D d24_0) rfl rfl (st833 _ (XS.aloadN X833.here hx rfl (D d24_4) rfl rfl (st834 _ (XS.astoreN X834.here hx rfl (D d24_8) rfl rfl (l' := #[rv so, rv ob, .val .null, rv va, .unset]) rfl (XS.aloadN X834.here hx rfl (D d24_9) rfl rfl (st835 _ (XS.istore X835.here hx rfl (D d24_13) rfl (l' := #[rv so, rv ob, .val .null, rv va, iv 64]) rfl (XS.aloadN X835.here hx rfl (D d24_15) rfl rfl (st836 _ (XS.ifNo X836.here hx rfl (D d24_19) rfl ((if0 _ _).trans (feq (by decide : ¬ ((1 : Int32) = (0 : Int32)))).1) (XS.aloadN X836.here hx rfl (D d24_22) rfl rfl (XS.iconst X836.here hx rfl (D d24_23) (st838 _ (XS.aloadN X838.here hx rfl (D d24_27) rfl rfl (XS.aloadN X838.here hx rfl (D d24_28) rfl rfl (XS.iconst X838.here hx rfl (D d24_29) (XS.iload X838.here hx rfl (D d24_30) rfl (st840 _ (st845 _ (XS.goto X845.here hx rfl (pc0 := 38) (pc' := 97) rfl (D d24_38) (by decide) (by decide) k))))))))))))))))))))) ?_
  exact Go.retV X845 hx hlk hret (D d24_97) (by decide) (by decide) (by rw [e845]; exact ⟨vb_840, kb_840, rfl, N845, K848, z_vb_840, f845, f849, f850⟩)
theorem ef_rm_si2_64 (m : MethodId) (so : Addr) (ob : Addr) : entryFrame m #[(.ref so), (.ref ob)] 2 = mkF m 0 #[rv so, rv ob] [] := by first | (simp [entryFrame, mkF, argsToLocals, Value.category]; done) | rfl
set_option maxRecDepth 65536 in
set_option maxHeartbeats 40000000 in
theorem rm_si2_64 {l : Launch} {Z : State} {a0 : Array Value} {A : Nat → Addr} {KC : Nat → Cell} {IC : Nat → Int32} {VC : Nat → Value} (hw : ∀ d ∈ tables_1, d.before a0 Z = true) (G : own_Ctx Z A KC IC VC) (so : Addr) (ob : Addr) (va : Addr) (kv : ClassId) (bs : List Int32) (h0 : Heap) (O0 : Ext Z.heap h0) (prem0 : bs.length = 64) (prem1 : Exa Z h0 so "java/lang/String") (prem2 : Fld Z h0 so "java/lang/String" "value" "[B" .null) (prem3 : Fld Z h0 so "java/lang/String" "coder" "B" (.int (0 : Int32))) (prem4 : Z.heap.size ≤ so) (prem5 : Exa Z h0 ob "java/lang/StringBuilder") (prem6 : Fld Z h0 ob "java/lang/AbstractStringBuilder" "value" "[B" (.ref va)) (prem7 : Fld Z h0 ob "java/lang/AbstractStringBuilder" "coder" "B" (.int (0 : Int32))) (prem8 : Fld Z h0 ob "java/lang/AbstractStringBuilder" "count" "I" (.int (64 : Int32))) (prem9 : Arv Z h0 va kv .byte (70 : Int32) (bs.map Value.int) (.int (0 : Int32))) (prem10 : so ≠ ob) (prem11 : so ≠ va) :
    Ok l Z own_m75 jdk_42_method_53_code 2 none ({ frames := 4, cells := 1, slots := 64, locals := 65 } : Room) #[(.ref so), (.ref ob)] h0
      (fun v h L => ∃ vb : Addr, ∃ kb : ClassId, v = none ∧ (Fr Z.heap.size L) ∧ (Keep h0 h [so]) ∧ (h0.size ≤ vb) ∧ (Fld Z h so "java/lang/String" "value" "[B" (.ref vb)) ∧ (Fld Z h so "java/lang/String" "coder" "B" (.int (0 : Int32))) ∧ (Arv Z h vb kb .byte (64 : Int32) (bs.map Value.int) (.int (0 : Int32)))) := by
  refine Ok.mk pn76 ?_
  intro p e s m below meth c T0 hx hby hml hown hnm hret hlk hZ e0 X0
  refine Go.cast (ef_rm_si2_64 m so ob) ?_
  have D := @hb _ _ hby
  have N0 := Fr.nil Z.heap.size
  have K0 : Keep h0 h0 [so] := Keep.refl _ _
  obtain ⟨T851, v851, L851, X851, q851, st851⟩ := callNew X0 hx hZ (y := own_m72) rfl hown (own_w hw (i := 152) rfl) (own_w hw (i := 153) rfl) (own_w hw (i := 4) rfl) (own_w hw (i := 154) rfl) (by decide) (rm_si1_64 hw G so ob va kv bs h0 O0 (prem0) prem1 prem2 prem3 prem4 prem5 prem6 prem7 prem8 prem9 prem10 prem11) e0 (W := 0) (by decide) (by decide) (by decide) (by decide) (g := (mkF m 3 #[rv so, rv ob] [.null, (.ref ob), (.ref so)])) rfl (by rw [hml]; rfl) (a := so) (argsL := [(.ref ob), .null]) (rest := []) (lenOf pd74 rfl) rfl rfl (Nat.le_of_eq rfl) (D d23_3)
  obtain ⟨vb_851, kb_851, rfl, N851q, K851q, p851_0, p851_1, p851_2, p851_3⟩ := q851
  have N851 := Fr.app N0 N851q
  have O852 := Old0.keep O0 K851q (allS prem4 all0)
  have K852 := Keep.trans K0 K851q (allS (Or.inl (List.mem_of_getElem? (i := 0) rfl)) all0)
  have z_vb_851 : h0.size ≤ vb_851 := Nat.le_trans K0.1 p851_0
  have g_vb_851 : Z.heap.size ≤ vb_851 := Nat.le_trans O0.1 p851_0
  have ne_so_vb_851 : so ≠ vb_851 := Nat.ne_of_lt (Nat.lt_of_lt_of_le prem1.lt p851_0)
  have ne_ob_vb_851 : ob ≠ vb_851 := Nat.ne_of_lt (Nat.lt_of_lt_of_le prem5.lt p851_0)
  have ne_va_vb_851 : va ≠ vb_851 := Nat.ne_of_lt (Nat.lt_of_lt_of_le prem9.lt p851_0)
  refine Go.of (T' := T851) (f' := (mkF m 6 #[rv so, rv ob] [])) (fun _ k => XS.aloadN X0.here hx rfl (D d23_0) rfl rfl (XS.aloadN X0.here hx rfl (D d23_1) rfl rfl (XS.aconstNull X0.here hx rfl (D d23_2) (st851 _ k)))) ?_
  exact Go.retV X851 hx hlk hret (D d23_6) (by decide) (by decide) ⟨vb_851, kb_851, rfl, N851, K852, z_vb_851, p851_1, p851_2, p851_3⟩
theorem ef_rm_tos_64 (m : MethodId) (ob : Addr) : entryFrame m #[(.ref ob)] 1 = mkF m 0 #[rv ob] [] := by first | (simp [entryFrame, mkF, argsToLocals, Value.category]; done) | rfl
set_option maxRecDepth 65536 in
set_option maxHeartbeats 40000000 in
theorem rm_tos_64 {l : Launch} {Z : State} {a0 : Array Value} {A : Nat → Addr} {KC : Nat → Cell} {IC : Nat → Int32} {VC : Nat → Value} (hw : ∀ d ∈ tables_1, d.before a0 Z = true) (G : own_Ctx Z A KC IC VC) (ob : Addr) (va : Addr) (kv : ClassId) (bs : List Int32) (h0 : Heap) (O0 : Ext Z.heap h0) (prem0 : bs.length = 64) (prem1 : Exa Z h0 ob "java/lang/StringBuilder") (prem2 : Fld Z h0 ob "java/lang/AbstractStringBuilder" "value" "[B" (.ref va)) (prem3 : Fld Z h0 ob "java/lang/AbstractStringBuilder" "coder" "B" (.int (0 : Int32))) (prem4 : Fld Z h0 ob "java/lang/AbstractStringBuilder" "count" "I" (.int (64 : Int32))) (prem5 : Arv Z h0 va kv .byte (70 : Int32) (bs.map Value.int) (.int (0 : Int32))) :
    Ok l Z own_m78 jdk_67_method_42_code 1 (some (.object "java/lang/String")) ({ frames := 5, cells := 2, slots := 68, locals := 79 } : Room) #[(.ref ob)] h0
      (fun v h L => ∃ so : Addr, ∃ vb : Addr, ∃ kb : ClassId, v = some (.ref so) ∧ (Fr Z.heap.size L) ∧ (Keep h0 h []) ∧ (h0.size ≤ so) ∧ (h0.size ≤ vb) ∧ (Exa Z h so "java/lang/String") ∧ (Fld Z h so "java/lang/String" "value" "[B" (.ref vb)) ∧ (Fld Z h so "java/lang/String" "coder" "B" (.int (0 : Int32))) ∧ (Arv Z h vb kb .byte (64 : Int32) (bs.map Value.int) (.int (0 : Int32)))) := by
  refine Ok.mk pn79 ?_
  intro p e s m below meth c T0 hx hby hml hown hnm hret hlk hZ e0 X0
  refine Go.cast (ef_rm_tos_64 m ob) ?_
  have D := @hb _ _ hby
  have N0 := Fr.nil Z.heap.size
  have K0 : Keep h0 h0 [] := Keep.refl _ _
  obtain ⟨T853, h853, b853, q853, X853, e853, E853, A853, D853, st853⟩ := newOb X0 hx hZ hown (own_w hw (i := 147) rfl) (own_w hw (i := 5) rfl) (own_w hw (i := 4) rfl) e0 (g := (mkF m 0 #[rv ob] [])) rfl (D d22_0) (by decide) (by decide)
  have O854 := Old0.ext O0 E853
  have K854 := Keep.ext K0 E853
  have g_b853 : Z.heap.size ≤ b853 := q853 ▸ O0.1
  have z_b853 : h0.size ≤ b853 := q853 ▸ K0.1
  have ne_ob_b853 : ob ≠ b853 := q853 ▸ Nat.ne_of_lt prem1.lt
  have ne_va_b853 : va ≠ b853 := q853 ▸ Nat.ne_of_lt prem5.lt
  have f855 : Fld Z h853 b853 "java/lang/String" "value" "[B" .null := D853 (Or.inr (own_w hw (i := 7) rfl)) (ty := (.array .byte)) (by decide)
  have f856 : Fld Z h853 b853 "java/lang/String" "coder" "B" (.int 0) := D853 (Or.inr (own_w hw (i := 8) rfl)) (ty := .byte) (by decide)
  have f858 : Exa Z h853 ob "java/lang/StringBuilder" := (Exa.ext E853 prem1)
  have f859 : Fld Z h853 ob "java/lang/AbstractStringBuilder" "value" "[B" (.ref va) := (Fld.ext E853 prem2)
  have f860 : Fld Z h853 ob "java/lang/AbstractStringBuilder" "coder" "B" (.int 0) := (Fld.ext E853 prem3)
  have f861 : Fld Z h853 ob "java/lang/AbstractStringBuilder" "count" "I" (.int 64) := (Fld.ext E853 prem4)
  have f862 : Arv Z h853 va kv .byte (70 : Int32) (bs.map Value.int) (.int 0) := (Arv.ext prem5 E853)
  obtain ⟨T857, v857, L857, X857, q857, st857⟩ := callNew X853 hx hZ (y := own_m75) rfl hown (own_w hw (i := 148) rfl) (own_w hw (i := 149) rfl) (own_w hw (i := 4) rfl) (own_w hw (i := 151) rfl) (by decide) (rm_si2_64 hw G b853 ob va kv bs h853 O854 (prem0) A853 f855 f856 g_b853 f858 f859 f860 f861 f862 (Ne.symm ne_ob_b853) (Ne.symm ne_va_b853)) e853 (W := 1) (by decide) (by decide) (by decide) (by decide) (g := (mkF m 5 #[rv ob] [(.ref ob), (.ref b853), (.ref b853)])) rfl (by rw [hml]; rfl) (a := b853) (argsL := [(.ref ob)]) (rest := [(.ref b853)]) (lenOf pd77 rfl) rfl rfl (Nat.le_of_eq rfl) (D d22_5)
  obtain ⟨vb_857, kb_857, rfl, N857q, K857q, p857_0, p857_1, p857_2, p857_3⟩ := q857
  have N857 := Fr.app N0 N857q
  have O863 := Old0.keep O854 K857q (allS g_b853 all0)
  have K863 := Keep.trans K854 K857q (allS (Or.inr z_b853) all0)
  have z_vb_857 : h0.size ≤ vb_857 := Nat.le_trans K854.1 p857_0
  have g_vb_857 : Z.heap.size ≤ vb_857 := Nat.le_trans O854.1 p857_0
  have ne_ob_vb_857 : ob ≠ vb_857 := Nat.ne_of_lt (Nat.lt_of_lt_of_le f858.lt p857_0)
  have ne_va_vb_857 : va ≠ vb_857 := Nat.ne_of_lt (Nat.lt_of_lt_of_le f862.lt p857_0)
  have ne_b853_vb_857 : b853 ≠ vb_857 := Nat.ne_of_lt (Nat.lt_of_lt_of_le A853.lt p857_0)
  have f864 : Exa Z T857.heap b853 "java/lang/String" := (Exa.keep A853 K857q)
  refine Go.of (T' := T857) (f' := (mkF m 8 #[rv ob] [(.ref b853)])) (fun _ k => st853 _ (XS.dup X853.here hx rfl (D d22_3) rfl rfl (XS.aloadN X853.here hx rfl (D d22_4) rfl rfl (st857 _ k)))) ?_
  exact Go.retA X857 hx hlk hret rfl rfl (D d22_8) (by decide) (by decide) ⟨b853, vb_857, kb_857, rfl, N857, K863, z_b853, z_vb_857, f864, p857_1, p857_2, p857_3⟩
theorem ef_rm_req_SUBSCRIPTION (m : MethodId) {A : Nat → Addr}  : entryFrame m #[(.ref (A 3))] 1 = mkF m 0 #[rv (A 3)] [] := by first | (simp [entryFrame, mkF, argsToLocals, Value.category]; done) | rfl
set_option maxRecDepth 65536 in
set_option maxHeartbeats 40000000 in
theorem rm_req_SUBSCRIPTION {l : Launch} {Z : State} {a0 : Array Value} {A : Nat → Addr} {KC : Nat → Cell} {IC : Nat → Int32} {VC : Nat → Value} (hw : ∀ d ∈ tables_1, d.before a0 Z = true) (G : own_Ctx Z A KC IC VC)   (h0 : Heap) (O0 : Ext Z.heap h0)  :
    OkS l Z own_EL own_m84 prog_10_method_5_code 1 (some (.object "java/lang/String")) ({ frames := 6, cells := 14, slots := 404, locals := 91 } : Room) #[(.ref (A 3))] h0
      (fun v h L => ∃ so : Addr, ∃ vb : Addr, ∃ kb : ClassId, v = some (.ref so) ∧ (Fr Z.heap.size L) ∧ (Keep h0 h []) ∧ (h0.size ≤ so) ∧ (Exa Z h so "java/lang/String") ∧ (Fld Z h so "java/lang/String" "value" "[B" (.ref vb)) ∧ (Fld Z h so "java/lang/String" "coder" "B" (.int (0 : Int32))) ∧ (Arv Z h vb kb .byte (64 : Int32) (([(65 : Int32), (32 : Int32), (115 : Int32), (117 : Int32), (98 : Int32), (115 : Int32), (99 : Int32), (114 : Int32), (105 : Int32), (112 : Int32), (116 : Int32), (105 : Int32), (111 : Int32), (110 : Int32), (32 : Int32), (110 : Int32), (97 : Int32), (109 : Int32), (101 : Int32), (32 : Int32), (105 : Int32), (115 : Int32), (32 : Int32), (51 : Int32), (32 : Int32), (116 : Int32), (111 : Int32), (32 : Int32), (54 : Int32), (52 : Int32), (32 : Int32), (65 : Int32), (83 : Int32), (67 : Int32), (73 : Int32), (73 : Int32), (32 : Int32), (108 : Int32), (101 : Int32), (116 : Int32), (116 : Int32), (101 : Int32), (114 : Int32), (115 : Int32), (44 : Int32), (32 : Int32), (100 : Int32), (105 : Int32), (103 : Int32), (105 : Int32), (116 : Int32), (115 : Int32), (32 : Int32), (111 : Int32), (114 : Int32), (32 : Int32), (104 : Int32), (121 : Int32), (112 : Int32), (104 : Int32), (101 : Int32), (110 : Int32), (115 : Int32), (46 : Int32)] : List Int32).map Value.int) (.int (0 : Int32)))) := by
  refine OkS.mk pn85 ?_
  intro p e s m below meth c T0 hx hby hml hown hnm hret hlk hZ e0 C0 hS X0
  have hk := Nat.zero_le h0.size
  have hEL := own_EW hw
  refine GoS.cast (ef_rm_req_SUBSCRIPTION m ) ?_
  obtain ⟨-, -, -, -, -, -, -, -, -, -, -, F_s_SUBSCRIPTION_kind, E_s_SUBSCRIPTION_kind, F_s_SUBSCRIPTION_kind_value, E_s_SUBSCRIPTION_kind_value, F_s_SUBSCRIPTION_kind_coder, F_s_SUBSCRIPTION_minLength, F_s_SUBSCRIPTION_maxLength, -, -, -, -, -, -, -, V_s_SUBSCRIPTION_kind_value, -⟩ := id G
  have D := @hb _ _ hby
  have N0 := Fr.nil Z.heap.size
  have K0 : Keep h0 h0 [] := Keep.refl _ _
  obtain ⟨T865, h865, b865, q865, X865, e865, E865, A865, D865, st865⟩ := newOb X0 hx hZ hown (own_w hw (i := 16) rfl) (own_w hw (i := 17) rfl) (own_w hw (i := 18) rfl) e0 (g := (mkF m 0 #[rv (A 3)] [])) rfl (D d0_0) (by decide) (by decide)
  have O867 := Old0.ext O0 E865
  have K867 := Keep.ext K0 E865
  have C866 := CHr.trans C0 (CHr.ext E865 C0.1)
  have hk := Nat.le_trans hk E865.1
  have g_b865 : Z.heap.size ≤ b865 := q865 ▸ O0.1
  have z_b865 : h0.size ≤ b865 := q865 ▸ K0.1
  have f868 : Fld Z h865 b865 "java/lang/AbstractStringBuilder" "value" "[B" .null := D865 (Or.inl (own_w hw (i := 33) rfl)) (ty := (.array .byte)) (by decide)
  have f869 : Fld Z h865 b865 "java/lang/AbstractStringBuilder" "coder" "B" (.int 0) := D865 (Or.inl (own_w hw (i := 35) rfl)) (ty := .byte) (by decide)
  have f870 : Fld Z h865 b865 "java/lang/AbstractStringBuilder" "count" "I" (.int 0) := D865 (Or.inl (own_w hw (i := 61) rfl)) (ty := .int) (by decide)
  obtain ⟨T871, v871, L871, X871, q871, st871⟩ := callNew X865 hx hZ (y := own_m3) rfl hown (own_w hw (i := 19) rfl) (own_w hw (i := 20) rfl) (own_w hw (i := 18) rfl) (own_w hw (i := 21) rfl) (by decide) (rm_sbi hw G b865  h865 O867 A865 f868 f869 f870 g_b865) e865 (W := 1) (by decide) (by decide) (by decide) (by decide) (g := (mkF m 4 #[rv (A 3)] [(.ref b865), (.ref b865)])) rfl (by rw [hml]; rfl) (a := b865) (argsL := []) (rest := [(.ref b865)]) (lenOf pd80 rfl) rfl rfl (Nat.le_of_eq rfl) (D d0_4)
  obtain ⟨va_871, kv_871, rfl, N871q, K871q, p871_0, p871_1, p871_2, p871_3, p871_4⟩ := q871
  have N871 := Fr.app N0 N871q
  have O873 := Old0.keep O867 K871q (allS g_b865 all0)
  have K873 := Keep.trans K867 K871q (allS (Or.inr z_b865) all0)
  have C872 := CHr.trans C866 (CHr.keep K871q (sfS (Safe.exa hZ.alike A865 (by decide) (by decide)) sf0) C866.1)
  have hk := Nat.le_trans hk K871q.1
  have z_va_871 : h0.size ≤ va_871 := Nat.le_trans K867.1 p871_0
  have g_va_871 : Z.heap.size ≤ va_871 := Nat.le_trans O867.1 p871_0
  have ne_b865_va_871 : b865 ≠ va_871 := Nat.ne_of_lt (Nat.lt_of_lt_of_le A865.lt p871_0)
  refine GoS.of (T' := T871) (f' := (mkF m 7 #[rv (A 3)] [(.ref b865)])) (fun _ k => st865 _ (XS.dup X865.here hx rfl (D d0_3) rfl rfl (st871 _ k))) ?_
  have f875 : Exa Z T871.heap b865 "java/lang/StringBuilder" := (Exa.keep A865 K871q)
  have sf876 : Safe Z own_EL s.vm T871.heap va_871 := (Safe.keep K871q (sfS (Safe.exa hZ.alike A865 (by decide) (by decide)) sf0) C866.1 (Safe.new p871_0))
  have sp874_b865 : Safe Z own_EL s.vm T871.heap b865 := (Safe.exa hZ.alike f875 (by decide) (by decide))
  have sp874_va_871 : Safe Z own_EL s.vm T871.heap va_871 := sf876
  obtain ⟨c874, T874, h874, k1874, v874, kc874, X874, e874, E874, hS, hk874, hZ, hown, A874, Fc874, Fv874, V874, -, -, Cq874, -, sn874, st874⟩ := ldcCH X871 hx hZ hown (own_w hw (i := 36) rfl) (own_wS hw) rfl hS hk hEL (by decide) C872.1 (vs := [(.int 65), (.int 32)]) (z := (2 : Int32)) ⟨by decide +kernel, by decide +kernel⟩ (by decide) rfl (g := (mkF m 7 #[rv (A 3)] [(.ref b865)])) rfl (D d0_7) (n := 8) (by decide +kernel) (by decide) (by decide) (by decide)
  have O874 := Old0.ext O873 E874
  have K874 := Keep.ext K873 E874
  have C874 := CHr.trans C872 Cq874
  have hk := hk874
  have sf874_b865 : Safe Z own_EL T874.vm h874 b865 := CHr.safe Cq874 f875.lt sp874_b865
  have ne_b865_c874 : b865 ≠ c874 := (sn874 b865 sf874_b865).1
  have ne_b865_v874 : b865 ≠ v874 := (sn874 b865 sf874_b865).2
  have sf874_va_871 : Safe Z own_EL T874.vm h874 va_871 := CHr.safe Cq874 p871_4.lt sp874_va_871
  have ne_va_871_c874 : va_871 ≠ c874 := (sn874 va_871 sf874_va_871).1
  have ne_va_871_v874 : va_871 ≠ v874 := (sn874 va_871 sf874_va_871).2
  have f878 : Exa Z h874 b865 "java/lang/StringBuilder" := (Exa.ext E874 f875)
  have f879 : Fld Z h874 b865 "java/lang/AbstractStringBuilder" "value" "[B" (.ref va_871) := (Fld.ext E874 p871_1)
  have f880 : Fld Z h874 b865 "java/lang/AbstractStringBuilder" "coder" "B" (.int 0) := (Fld.ext E874 p871_2)
  have f881 : Fld Z h874 b865 "java/lang/AbstractStringBuilder" "count" "I" (.int 0) := (Fld.ext E874 p871_3)
  have f882 : Arv Z h874 va_871 kv_871 .byte (16 : Int32) (([] : List Int32).map Value.int) (.int 0) := (Arv.ext p871_4 E874)
  obtain ⟨T877, v877, L877, X877, q877, st877⟩ := callVi X874 hx hZ (y := own_m36) (z := own_m36) hown (own_w hw (i := 37) rfl) (own_w hw (i := 38) rfl) (notFace_of_selects (args := #[]) (mvT hZ (own_w hw (i := 40) rfl))) (own_w hw (i := 40) rfl) (own_w hw (i := 39) rfl) (own_w hw (i := 41) rfl) (own_w hw (i := 18) rfl) (by decide) (rm_sba_0_2_16 hw G b865 c874 v874 kc874 (([(65 : Int32), (32 : Int32)] : List Int32)) va_871 kv_871 (([] : List Int32)) h874 O874 (rfl) (rfl) f878 f879 f880 f881 A874 Fv874 Fc874 V874 f882 g_b865 g_va_871 ne_b865_va_871 (Ne.symm ne_b865_c874) (Ne.symm ne_b865_v874) (Ne.symm ne_va_871_c874) (Ne.symm ne_va_871_v874)) e874 (W := 0) (by decide) (by decide) (by decide) (by decide) f878 (g := (mkF m 9 #[rv (A 3)] [(.ref c874), (.ref b865)])) rfl (by rw [hml]; rfl) (argsL := [(.ref c874)]) (rest := []) (lenOf pd81 rfl) rfl rfl (Nat.le_of_eq rfl) (D d0_9)
  obtain ⟨rfl, N877q, K877q, p877_0, p877_1, p877_2, p877_3⟩ := q877
  have N877 := Fr.app N871 N877q
  have O884 := Old0.keep O874 K877q (allS g_b865 (allS g_va_871 all0))
  have K884 := Keep.trans K874 K877q (allS (Or.inr z_b865) (allS (Or.inr z_va_871) all0))
  have C883 := CHr.trans C874 (CHr.keep K877q (sfS (Safe.exa hZ.alike f878 (by decide) (by decide)) (sfS sf874_va_871 sf0)) C874.1)
  have hk := Nat.le_trans hk K877q.1
  have nm885 : Arv Z T877.heap va_871 kv_871 .byte (16 : Int32) (([(65 : Int32), (32 : Int32)] : List Int32).map Value.int) (.int 0) := p877_3
  obtain ⟨T886, X886, e886, st886⟩ := getF X877 hx hZ hown (host := "") (Or.inl (own_w hw (i := 87) rfl)) Via.refl rfl (Fld.ext O884 F_s_SUBSCRIPTION_kind) (g := (mkF m 13 #[rv (A 3)] [(.ref (A 3)), (.ref b865)])) rfl rfl (D d0_13)
  have f888 : Exa Z T877.heap b865 "java/lang/StringBuilder" := (Exa.keep f878 K877q)
  obtain ⟨T887, v887, L887, X887, q887, st887⟩ := callVi X886 hx hZ (y := own_m36) (z := own_m36) hown (own_w hw (i := 37) rfl) (own_w hw (i := 38) rfl) (notFace_of_selects (args := #[]) (mvT hZ (own_w hw (i := 40) rfl))) (own_w hw (i := 40) rfl) (own_w hw (i := 39) rfl) (own_w hw (i := 41) rfl) (own_w hw (i := 18) rfl) (by decide) (rm_sba_2_12_16 hw G b865 ((A 4)) ((A 5)) ((KC 1).cls) (([(115 : Int32), (117 : Int32), (98 : Int32), (115 : Int32), (99 : Int32), (114 : Int32), (105 : Int32), (112 : Int32), (116 : Int32), (105 : Int32), (111 : Int32), (110 : Int32)] : List Int32)) va_871 kv_871 (([(65 : Int32), (32 : Int32)] : List Int32)) T877.heap O884 (rfl) (rfl) f888 p877_0 p877_1 p877_2 (Exa.ext O884 E_s_SUBSCRIPTION_kind) (Fld.ext O884 F_s_SUBSCRIPTION_kind_value) (Fld.ext O884 F_s_SUBSCRIPTION_kind_coder) (Arv.ext V_s_SUBSCRIPTION_kind_value O884) nm885 g_b865 g_va_871 ne_b865_va_871 (Nat.ne_of_lt (Nat.lt_of_lt_of_le (Exa.lt E_s_SUBSCRIPTION_kind) g_b865)) (Nat.ne_of_lt (Nat.lt_of_lt_of_le (Exa.lt E_s_SUBSCRIPTION_kind_value) g_b865)) (Nat.ne_of_lt (Nat.lt_of_lt_of_le (Exa.lt E_s_SUBSCRIPTION_kind) g_va_871)) (Nat.ne_of_lt (Nat.lt_of_lt_of_le (Exa.lt E_s_SUBSCRIPTION_kind_value) g_va_871))) e886 (W := 0) (by decide) (by decide) (by decide) (by decide) f888 (g := (mkF m 16 #[rv (A 3)] [(.ref (A 4)), (.ref b865)])) rfl (by rw [hml]; rfl) (argsL := [(.ref (A 4))]) (rest := []) (lenOf pd81 rfl) rfl rfl (Nat.le_of_eq rfl) (D d0_16)
  obtain ⟨rfl, N887q, K887q, p887_0, p887_1, p887_2, p887_3⟩ := q887
  have N887 := Fr.app N877 N887q
  have sf890 : Safe Z own_EL T874.vm T877.heap va_871 := (Safe.keep K877q (sfS (Safe.exa hZ.alike f878 (by decide) (by decide)) (sfS sf874_va_871 sf0)) C874.1 sf874_va_871)
  have O891 := Old0.keep O884 K887q (allS g_b865 (allS g_va_871 all0))
  have K891 := Keep.trans K884 K887q (allS (Or.inr z_b865) (allS (Or.inr z_va_871) all0))
  have C889 := CHr.trans C883 (CHr.keep K887q (sfS (Safe.exa hZ.alike f888 (by decide) (by decide)) (sfS sf890 sf0)) C883.1)
  have hk := Nat.le_trans hk K887q.1
  have nm892 : Arv Z T887.heap va_871 kv_871 .byte (16 : Int32) (([(65 : Int32), (32 : Int32), (115 : Int32), (117 : Int32), (98 : Int32), (115 : Int32), (99 : Int32), (114 : Int32), (105 : Int32), (112 : Int32), (116 : Int32), (105 : Int32), (111 : Int32), (110 : Int32)] : List Int32).map Value.int) (.int 0) := p887_3
  refine GoS.of (T' := T887) (f' := (mkF m 19 #[rv (A 3)] [(.ref b865)])) (fun _ k => st874 _ (st877 _ (XS.aloadN X877.here hx rfl (D d0_12) rfl rfl (st886 _ (st887 _ k))))) ?_
  have f894 : Exa Z T887.heap b865 "java/lang/StringBuilder" := (Exa.keep f888 K887q)
  have sf895 : Safe Z own_EL T874.vm T887.heap va_871 := (Safe.keep K887q (sfS (Safe.exa hZ.alike f888 (by decide) (by decide)) (sfS sf890 sf0)) C883.1 sf890)
  have sp893_b865 : Safe Z own_EL T874.vm T887.heap b865 := (Safe.exa hZ.alike f894 (by decide) (by decide))
  have sp893_va_871 : Safe Z own_EL T874.vm T887.heap va_871 := sf895
  obtain ⟨c893, T893, h893, k1893, v893, kc893, X893, e893, E893, hS, hk893, hZ, hown, A893, Fc893, Fv893, V893, -, -, Cq893, -, sn893, st893⟩ := ldcCH X887 hx hZ hown (own_w hw (i := 89) rfl) (own_wS hw) rfl hS hk hEL (by decide) C889.1 (vs := [(.int 32), (.int 110), (.int 97), (.int 109), (.int 101), (.int 32), (.int 105), (.int 115), (.int 32)]) (z := (9 : Int32)) ⟨by decide +kernel, by decide +kernel⟩ (by decide) rfl (g := (mkF m 19 #[rv (A 3)] [(.ref b865)])) rfl (D d0_19) (n := 36) (by decide +kernel) (by decide) (by decide) (by decide)
  have O893 := Old0.ext O891 E893
  have K893 := Keep.ext K891 E893
  have C893 := CHr.trans C889 Cq893
  have hk := hk893
  have sf893_b865 : Safe Z own_EL T893.vm h893 b865 := CHr.safe Cq893 f894.lt sp893_b865
  have ne_b865_c893 : b865 ≠ c893 := (sn893 b865 sf893_b865).1
  have ne_b865_v893 : b865 ≠ v893 := (sn893 b865 sf893_b865).2
  have sf893_va_871 : Safe Z own_EL T893.vm h893 va_871 := CHr.safe Cq893 nm892.lt sp893_va_871
  have ne_va_871_c893 : va_871 ≠ c893 := (sn893 va_871 sf893_va_871).1
  have ne_va_871_v893 : va_871 ≠ v893 := (sn893 va_871 sf893_va_871).2
  have f897 : Exa Z h893 b865 "java/lang/StringBuilder" := (Exa.ext E893 f894)
  have f898 : Fld Z h893 b865 "java/lang/AbstractStringBuilder" "value" "[B" (.ref va_871) := (Fld.ext E893 p887_0)
  have f899 : Fld Z h893 b865 "java/lang/AbstractStringBuilder" "coder" "B" (.int 0) := (Fld.ext E893 p887_1)
  have f900 : Fld Z h893 b865 "java/lang/AbstractStringBuilder" "count" "I" (.int 14) := (Fld.ext E893 p887_2)
  have f901 : Arv Z h893 va_871 kv_871 .byte (16 : Int32) (([(65 : Int32), (32 : Int32), (115 : Int32), (117 : Int32), (98 : Int32), (115 : Int32), (99 : Int32), (114 : Int32), (105 : Int32), (112 : Int32), (116 : Int32), (105 : Int32), (111 : Int32), (110 : Int32)] : List Int32).map Value.int) (.int 0) := (Arv.ext nm892 E893)
  have f902 : Exa Z h893 c874 "java/lang/String" := (Exa.ext E893 (Exa.keep (Exa.keep A874 K877q) K887q))
  have f903 : Arv Z h893 v874 kc874 .byte (2 : Int32) [(.int 65), (.int 32)] (.int 0) := (Arv.ext (Arv.keep (Arv.keep V874 K877q (ninS (Ne.symm ne_b865_v874) (ninS (Ne.symm ne_va_871_v874) nin0))) K887q (ninS (Ne.symm ne_b865_v874) (ninS (Ne.symm ne_va_871_v874) nin0))) E893)
  obtain ⟨T896, v896, L896, X896, q896, st896⟩ := callVi X893 hx hZ (y := own_m36) (z := own_m36) hown (own_w hw (i := 37) rfl) (own_w hw (i := 38) rfl) (notFace_of_selects (args := #[]) (mvT hZ (own_w hw (i := 40) rfl))) (own_w hw (i := 40) rfl) (own_w hw (i := 39) rfl) (own_w hw (i := 41) rfl) (own_w hw (i := 18) rfl) (by decide) (rm_sba_14_9_16 hw G b865 c893 v893 kc893 (([(32 : Int32), (110 : Int32), (97 : Int32), (109 : Int32), (101 : Int32), (32 : Int32), (105 : Int32), (115 : Int32), (32 : Int32)] : List Int32)) va_871 kv_871 (([(65 : Int32), (32 : Int32), (115 : Int32), (117 : Int32), (98 : Int32), (115 : Int32), (99 : Int32), (114 : Int32), (105 : Int32), (112 : Int32), (116 : Int32), (105 : Int32), (111 : Int32), (110 : Int32)] : List Int32)) h893 O893 (rfl) (rfl) f897 f898 f899 f900 A893 Fv893 Fc893 V893 f901 g_b865 g_va_871 ne_b865_va_871 (Ne.symm ne_b865_c893) (Ne.symm ne_b865_v893) (Ne.symm ne_va_871_c893) (Ne.symm ne_va_871_v893)) e893 (W := 0) (by decide) (by decide) (by decide) (by decide) f897 (g := (mkF m 21 #[rv (A 3)] [(.ref c893), (.ref b865)])) rfl (by rw [hml]; rfl) (argsL := [(.ref c893)]) (rest := []) (lenOf pd81 rfl) rfl rfl (Nat.le_of_eq rfl) (D d0_21)
  obtain ⟨vb_896, kb_896, rfl, N896q, K896q, p896_0, p896_1, p896_2, p896_3, p896_4⟩ := q896
  have N896 := Fr.app N887 N896q
  have O905 := Old0.keep O893 K896q (allS g_b865 all0)
  have K905 := Keep.trans K893 K896q (allS (Or.inr z_b865) all0)
  have C904 := CHr.trans C893 (CHr.keep K896q (sfS (Safe.exa hZ.alike f897 (by decide) (by decide)) sf0) C893.1)
  have hk := Nat.le_trans hk K896q.1
  have z_vb_896 : h0.size ≤ vb_896 := Nat.le_trans K893.1 p896_0
  have g_vb_896 : Z.heap.size ≤ vb_896 := Nat.le_trans O893.1 p896_0
  have ne_b865_vb_896 : b865 ≠ vb_896 := Nat.ne_of_lt (Nat.lt_of_lt_of_le f897.lt p896_0)
  have ne_c874_vb_896 : c874 ≠ vb_896 := Nat.ne_of_lt (Nat.lt_of_lt_of_le f902.lt p896_0)
  have ne_v874_vb_896 : v874 ≠ vb_896 := Nat.ne_of_lt (Nat.lt_of_lt_of_le f903.lt p896_0)
  have ne_va_871_vb_896 : va_871 ≠ vb_896 := Nat.ne_of_lt (Nat.lt_of_lt_of_le f901.lt p896_0)
  have ne_c893_vb_896 : c893 ≠ vb_896 := Nat.ne_of_lt (Nat.lt_of_lt_of_le A893.lt p896_0)
  have ne_v893_vb_896 : v893 ≠ vb_896 := Nat.ne_of_lt (Nat.lt_of_lt_of_le V893.lt p896_0)
  have nm906 : Arv Z T896.heap vb_896 kb_896 .byte (34 : Int32) (([(65 : Int32), (32 : Int32), (115 : Int32), (117 : Int32), (98 : Int32), (115 : Int32), (99 : Int32), (114 : Int32), (105 : Int32), (112 : Int32), (116 : Int32), (105 : Int32), (111 : Int32), (110 : Int32), (32 : Int32), (110 : Int32), (97 : Int32), (109 : Int32), (101 : Int32), (32 : Int32), (105 : Int32), (115 : Int32), (32 : Int32)] : List Int32).map Value.int) (.int 0) := p896_4
  obtain ⟨T907, X907, e907, st907⟩ := getF X896 hx hZ hown (host := "") (Or.inl (own_w hw (i := 90) rfl)) Via.refl rfl (Fld.ext O905 F_s_SUBSCRIPTION_minLength) (g := (mkF m 25 #[rv (A 3)] [(.ref (A 3)), (.ref b865)])) rfl rfl (D d0_25)
  have f909 : Exa Z T896.heap b865 "java/lang/StringBuilder" := (Exa.keep f897 K896q)
  obtain ⟨T908, v908, L908, X908, q908, st908⟩ := callVi X907 hx hZ (y := own_m57) (z := own_m57) hown (own_w hw (i := 92) rfl) (own_w hw (i := 93) rfl) (notFace_of_selects (args := #[]) (mvT hZ (own_w hw (i := 95) rfl))) (own_w hw (i := 95) rfl) (own_w hw (i := 94) rfl) (own_w hw (i := 96) rfl) (own_w hw (i := 18) rfl) (by decide) (rm_sbi_3_23_34 hw G b865 vb_896 kb_896 (([(65 : Int32), (32 : Int32), (115 : Int32), (117 : Int32), (98 : Int32), (115 : Int32), (99 : Int32), (114 : Int32), (105 : Int32), (112 : Int32), (116 : Int32), (105 : Int32), (111 : Int32), (110 : Int32), (32 : Int32), (110 : Int32), (97 : Int32), (109 : Int32), (101 : Int32), (32 : Int32), (105 : Int32), (115 : Int32), (32 : Int32)] : List Int32)) T896.heap O905 (rfl) f909 p896_1 p896_2 p896_3 nm906 g_b865 g_vb_896 ne_b865_vb_896) e907 (W := 0) (by decide) (by decide) (by decide) (by decide) f909 (g := (mkF m 28 #[rv (A 3)] [(.int 3), (.ref b865)])) rfl (by rw [hml]; rfl) (argsL := [(.int 3)]) (rest := []) (lenOf pd82 rfl) rfl rfl (Nat.le_of_eq rfl) (D d0_28)
  obtain ⟨rfl, N908q, K908q, p908_0, p908_1, p908_2, p908_3⟩ := q908
  have N908 := Fr.app N896 N908q
  have sf911 : Safe Z own_EL T893.vm T896.heap vb_896 := (Safe.keep K896q (sfS (Safe.exa hZ.alike f897 (by decide) (by decide)) sf0) C893.1 (Safe.new p896_0))
  have O912 := Old0.keep O905 K908q (allS g_b865 (allS g_vb_896 all0))
  have K912 := Keep.trans K905 K908q (allS (Or.inr z_b865) (allS (Or.inr z_vb_896) all0))
  have C910 := CHr.trans C904 (CHr.keep K908q (sfS (Safe.exa hZ.alike f909 (by decide) (by decide)) (sfS sf911 sf0)) C904.1)
  have hk := Nat.le_trans hk K908q.1
  have nm913 : Arv Z T908.heap vb_896 kb_896 .byte (34 : Int32) (([(65 : Int32), (32 : Int32), (115 : Int32), (117 : Int32), (98 : Int32), (115 : Int32), (99 : Int32), (114 : Int32), (105 : Int32), (112 : Int32), (116 : Int32), (105 : Int32), (111 : Int32), (110 : Int32), (32 : Int32), (110 : Int32), (97 : Int32), (109 : Int32), (101 : Int32), (32 : Int32), (105 : Int32), (115 : Int32), (32 : Int32), (51 : Int32)] : List Int32).map Value.int) (.int 0) := p908_3
  refine GoS.of (T' := T908) (f' := (mkF m 31 #[rv (A 3)] [(.ref b865)])) (fun _ k => st893 _ (st896 _ (XS.aloadN X896.here hx rfl (D d0_24) rfl rfl (st907 _ (st908 _ k))))) ?_
  have f915 : Exa Z T908.heap b865 "java/lang/StringBuilder" := (Exa.keep f909 K908q)
  have sf916 : Safe Z own_EL T893.vm T908.heap va_871 := (Safe.keep K908q (sfS (Safe.exa hZ.alike f909 (by decide) (by decide)) (sfS sf911 sf0)) C904.1 (Safe.keep K896q (sfS (Safe.exa hZ.alike f897 (by decide) (by decide)) sf0) C893.1 sf893_va_871))
  have f917 : Arv Z T908.heap va_871 kv_871 .byte (16 : Int32) (([(65 : Int32), (32 : Int32), (115 : Int32), (117 : Int32), (98 : Int32), (115 : Int32), (99 : Int32), (114 : Int32), (105 : Int32), (112 : Int32), (116 : Int32), (105 : Int32), (111 : Int32), (110 : Int32)] : List Int32).map Value.int) (.int 0) := (Arv.keep (Arv.keep f901 K896q (ninS (Ne.symm ne_b865_va_871) nin0)) K908q (ninS (Ne.symm ne_b865_va_871) (ninS ne_va_871_vb_896 nin0)))
  have sf918 : Safe Z own_EL T893.vm T908.heap vb_896 := (Safe.keep K908q (sfS (Safe.exa hZ.alike f909 (by decide) (by decide)) (sfS sf911 sf0)) C904.1 sf911)
  have sp914_b865 : Safe Z own_EL T893.vm T908.heap b865 := (Safe.exa hZ.alike f915 (by decide) (by decide))
  have sp914_va_871 : Safe Z own_EL T893.vm T908.heap va_871 := sf916
  have sp914_vb_896 : Safe Z own_EL T893.vm T908.heap vb_896 := sf918
  obtain ⟨c914, T914, h914, k1914, v914, kc914, X914, e914, E914, hS, hk914, hZ, hown, A914, Fc914, Fv914, V914, -, -, Cq914, -, sn914, st914⟩ := ldcCH X908 hx hZ hown (own_w hw (i := 137) rfl) (own_wS hw) rfl hS hk hEL (by decide) C910.1 (vs := [(.int 32), (.int 116), (.int 111), (.int 32)]) (z := (4 : Int32)) ⟨by decide +kernel, by decide +kernel⟩ (by decide) rfl (g := (mkF m 31 #[rv (A 3)] [(.ref b865)])) rfl (D d0_31) (n := 16) (by decide +kernel) (by decide) (by decide) (by decide)
  have O914 := Old0.ext O912 E914
  have K914 := Keep.ext K912 E914
  have C914 := CHr.trans C910 Cq914
  have hk := hk914
  have sf914_b865 : Safe Z own_EL T914.vm h914 b865 := CHr.safe Cq914 f915.lt sp914_b865
  have ne_b865_c914 : b865 ≠ c914 := (sn914 b865 sf914_b865).1
  have ne_b865_v914 : b865 ≠ v914 := (sn914 b865 sf914_b865).2
  have sf914_va_871 : Safe Z own_EL T914.vm h914 va_871 := CHr.safe Cq914 f917.lt sp914_va_871
  have ne_va_871_c914 : va_871 ≠ c914 := (sn914 va_871 sf914_va_871).1
  have ne_va_871_v914 : va_871 ≠ v914 := (sn914 va_871 sf914_va_871).2
  have sf914_vb_896 : Safe Z own_EL T914.vm h914 vb_896 := CHr.safe Cq914 nm913.lt sp914_vb_896
  have ne_vb_896_c914 : vb_896 ≠ c914 := (sn914 vb_896 sf914_vb_896).1
  have ne_vb_896_v914 : vb_896 ≠ v914 := (sn914 vb_896 sf914_vb_896).2
  have f920 : Exa Z h914 b865 "java/lang/StringBuilder" := (Exa.ext E914 f915)
  have f921 : Fld Z h914 b865 "java/lang/AbstractStringBuilder" "value" "[B" (.ref vb_896) := (Fld.ext E914 p908_0)
  have f922 : Fld Z h914 b865 "java/lang/AbstractStringBuilder" "coder" "B" (.int 0) := (Fld.ext E914 p908_1)
  have f923 : Fld Z h914 b865 "java/lang/AbstractStringBuilder" "count" "I" (.int 24) := (Fld.ext E914 p908_2)
  have f924 : Arv Z h914 vb_896 kb_896 .byte (34 : Int32) (([(65 : Int32), (32 : Int32), (115 : Int32), (117 : Int32), (98 : Int32), (115 : Int32), (99 : Int32), (114 : Int32), (105 : Int32), (112 : Int32), (116 : Int32), (105 : Int32), (111 : Int32), (110 : Int32), (32 : Int32), (110 : Int32), (97 : Int32), (109 : Int32), (101 : Int32), (32 : Int32), (105 : Int32), (115 : Int32), (32 : Int32), (51 : Int32)] : List Int32).map Value.int) (.int 0) := (Arv.ext nm913 E914)
  obtain ⟨T919, v919, L919, X919, q919, st919⟩ := callVi X914 hx hZ (y := own_m36) (z := own_m36) hown (own_w hw (i := 37) rfl) (own_w hw (i := 38) rfl) (notFace_of_selects (args := #[]) (mvT hZ (own_w hw (i := 40) rfl))) (own_w hw (i := 40) rfl) (own_w hw (i := 39) rfl) (own_w hw (i := 41) rfl) (own_w hw (i := 18) rfl) (by decide) (rm_sba_24_4_34 hw G b865 c914 v914 kc914 (([(32 : Int32), (116 : Int32), (111 : Int32), (32 : Int32)] : List Int32)) vb_896 kb_896 (([(65 : Int32), (32 : Int32), (115 : Int32), (117 : Int32), (98 : Int32), (115 : Int32), (99 : Int32), (114 : Int32), (105 : Int32), (112 : Int32), (116 : Int32), (105 : Int32), (111 : Int32), (110 : Int32), (32 : Int32), (110 : Int32), (97 : Int32), (109 : Int32), (101 : Int32), (32 : Int32), (105 : Int32), (115 : Int32), (32 : Int32), (51 : Int32)] : List Int32)) h914 O914 (rfl) (rfl) f920 f921 f922 f923 A914 Fv914 Fc914 V914 f924 g_b865 g_vb_896 ne_b865_vb_896 (Ne.symm ne_b865_c914) (Ne.symm ne_b865_v914) (Ne.symm ne_vb_896_c914) (Ne.symm ne_vb_896_v914)) e914 (W := 0) (by decide) (by decide) (by decide) (by decide) f920 (g := (mkF m 33 #[rv (A 3)] [(.ref c914), (.ref b865)])) rfl (by rw [hml]; rfl) (argsL := [(.ref c914)]) (rest := []) (lenOf pd81 rfl) rfl rfl (Nat.le_of_eq rfl) (D d0_33)
  obtain ⟨rfl, N919q, K919q, p919_0, p919_1, p919_2, p919_3⟩ := q919
  have N919 := Fr.app N908 N919q
  have O926 := Old0.keep O914 K919q (allS g_b865 (allS g_vb_896 all0))
  have K926 := Keep.trans K914 K919q (allS (Or.inr z_b865) (allS (Or.inr z_vb_896) all0))
  have C925 := CHr.trans C914 (CHr.keep K919q (sfS (Safe.exa hZ.alike f920 (by decide) (by decide)) (sfS sf914_vb_896 sf0)) C914.1)
  have hk := Nat.le_trans hk K919q.1
  have nm927 : Arv Z T919.heap vb_896 kb_896 .byte (34 : Int32) (([(65 : Int32), (32 : Int32), (115 : Int32), (117 : Int32), (98 : Int32), (115 : Int32), (99 : Int32), (114 : Int32), (105 : Int32), (112 : Int32), (116 : Int32), (105 : Int32), (111 : Int32), (110 : Int32), (32 : Int32), (110 : Int32), (97 : Int32), (109 : Int32), (101 : Int32), (32 : Int32), (105 : Int32), (115 : Int32), (32 : Int32), (51 : Int32), (32 : Int32), (116 : Int32), (111 : Int32), (32 : Int32)] : List Int32).map Value.int) (.int 0) := p919_3
  obtain ⟨T928, X928, e928, st928⟩ := getF X919 hx hZ hown (host := "") (Or.inl (own_w hw (i := 138) rfl)) Via.refl rfl (Fld.ext O926 F_s_SUBSCRIPTION_maxLength) (g := (mkF m 37 #[rv (A 3)] [(.ref (A 3)), (.ref b865)])) rfl rfl (D d0_37)
  have f930 : Exa Z T919.heap b865 "java/lang/StringBuilder" := (Exa.keep f920 K919q)
  obtain ⟨T929, v929, L929, X929, q929, st929⟩ := callVi X928 hx hZ (y := own_m57) (z := own_m57) hown (own_w hw (i := 92) rfl) (own_w hw (i := 93) rfl) (notFace_of_selects (args := #[]) (mvT hZ (own_w hw (i := 95) rfl))) (own_w hw (i := 95) rfl) (own_w hw (i := 94) rfl) (own_w hw (i := 96) rfl) (own_w hw (i := 18) rfl) (by decide) (rm_sbi_64_28_34 hw G b865 vb_896 kb_896 (([(65 : Int32), (32 : Int32), (115 : Int32), (117 : Int32), (98 : Int32), (115 : Int32), (99 : Int32), (114 : Int32), (105 : Int32), (112 : Int32), (116 : Int32), (105 : Int32), (111 : Int32), (110 : Int32), (32 : Int32), (110 : Int32), (97 : Int32), (109 : Int32), (101 : Int32), (32 : Int32), (105 : Int32), (115 : Int32), (32 : Int32), (51 : Int32), (32 : Int32), (116 : Int32), (111 : Int32), (32 : Int32)] : List Int32)) T919.heap O926 (rfl) f930 p919_0 p919_1 p919_2 nm927 g_b865 g_vb_896 ne_b865_vb_896) e928 (W := 0) (by decide) (by decide) (by decide) (by decide) f930 (g := (mkF m 40 #[rv (A 3)] [(.int 64), (.ref b865)])) rfl (by rw [hml]; rfl) (argsL := [(.int 64)]) (rest := []) (lenOf pd82 rfl) rfl rfl (Nat.le_of_eq rfl) (D d0_40)
  obtain ⟨rfl, N929q, K929q, p929_0, p929_1, p929_2, p929_3⟩ := q929
  have N929 := Fr.app N919 N929q
  have sf932 : Safe Z own_EL T914.vm T919.heap vb_896 := (Safe.keep K919q (sfS (Safe.exa hZ.alike f920 (by decide) (by decide)) (sfS sf914_vb_896 sf0)) C914.1 sf914_vb_896)
  have O933 := Old0.keep O926 K929q (allS g_b865 (allS g_vb_896 all0))
  have K933 := Keep.trans K926 K929q (allS (Or.inr z_b865) (allS (Or.inr z_vb_896) all0))
  have C931 := CHr.trans C925 (CHr.keep K929q (sfS (Safe.exa hZ.alike f930 (by decide) (by decide)) (sfS sf932 sf0)) C925.1)
  have hk := Nat.le_trans hk K929q.1
  have nm934 : Arv Z T929.heap vb_896 kb_896 .byte (34 : Int32) (([(65 : Int32), (32 : Int32), (115 : Int32), (117 : Int32), (98 : Int32), (115 : Int32), (99 : Int32), (114 : Int32), (105 : Int32), (112 : Int32), (116 : Int32), (105 : Int32), (111 : Int32), (110 : Int32), (32 : Int32), (110 : Int32), (97 : Int32), (109 : Int32), (101 : Int32), (32 : Int32), (105 : Int32), (115 : Int32), (32 : Int32), (51 : Int32), (32 : Int32), (116 : Int32), (111 : Int32), (32 : Int32), (54 : Int32), (52 : Int32)] : List Int32).map Value.int) (.int 0) := p929_3
  refine GoS.of (T' := T929) (f' := (mkF m 43 #[rv (A 3)] [(.ref b865)])) (fun _ k => st914 _ (st919 _ (XS.aloadN X919.here hx rfl (D d0_36) rfl rfl (st928 _ (st929 _ k))))) ?_
  have f936 : Exa Z T929.heap b865 "java/lang/StringBuilder" := (Exa.keep f930 K929q)
  have sf937 : Safe Z own_EL T914.vm T929.heap va_871 := (Safe.keep K929q (sfS (Safe.exa hZ.alike f930 (by decide) (by decide)) (sfS sf932 sf0)) C925.1 (Safe.keep K919q (sfS (Safe.exa hZ.alike f920 (by decide) (by decide)) (sfS sf914_vb_896 sf0)) C914.1 sf914_va_871))
  have f938 : Arv Z T929.heap va_871 kv_871 .byte (16 : Int32) (([(65 : Int32), (32 : Int32), (115 : Int32), (117 : Int32), (98 : Int32), (115 : Int32), (99 : Int32), (114 : Int32), (105 : Int32), (112 : Int32), (116 : Int32), (105 : Int32), (111 : Int32), (110 : Int32)] : List Int32).map Value.int) (.int 0) := (Arv.keep (Arv.keep (Arv.ext f917 E914) K919q (ninS (Ne.symm ne_b865_va_871) (ninS ne_va_871_vb_896 nin0))) K929q (ninS (Ne.symm ne_b865_va_871) (ninS ne_va_871_vb_896 nin0)))
  have sf939 : Safe Z own_EL T914.vm T929.heap vb_896 := (Safe.keep K929q (sfS (Safe.exa hZ.alike f930 (by decide) (by decide)) (sfS sf932 sf0)) C925.1 sf932)
  have sp935_b865 : Safe Z own_EL T914.vm T929.heap b865 := (Safe.exa hZ.alike f936 (by decide) (by decide))
  have sp935_va_871 : Safe Z own_EL T914.vm T929.heap va_871 := sf937
  have sp935_vb_896 : Safe Z own_EL T914.vm T929.heap vb_896 := sf939
  obtain ⟨c935, T935, h935, k1935, v935, kc935, X935, e935, E935, hS, hk935, hZ, hown, A935, Fc935, Fv935, V935, -, -, Cq935, -, sn935, st935⟩ := ldcCH X929 hx hZ hown (own_w hw (i := 141) rfl) (own_wS hw) rfl hS hk hEL (by decide) C931.1 (vs := [(.int 32), (.int 65), (.int 83), (.int 67), (.int 73), (.int 73), (.int 32), (.int 108), (.int 101), (.int 116), (.int 116), (.int 101), (.int 114), (.int 115), (.int 44), (.int 32), (.int 100), (.int 105), (.int 103), (.int 105), (.int 116), (.int 115), (.int 32), (.int 111), (.int 114), (.int 32), (.int 104), (.int 121), (.int 112), (.int 104), (.int 101), (.int 110), (.int 115), (.int 46)]) (z := (34 : Int32)) ⟨by decide +kernel, by decide +kernel⟩ (by decide) rfl (g := (mkF m 43 #[rv (A 3)] [(.ref b865)])) rfl (D d0_43) (n := 136) (by decide +kernel) (by decide) (by decide) (by decide)
  have O935 := Old0.ext O933 E935
  have K935 := Keep.ext K933 E935
  have C935 := CHr.trans C931 Cq935
  have hk := hk935
  have sf935_b865 : Safe Z own_EL T935.vm h935 b865 := CHr.safe Cq935 f936.lt sp935_b865
  have ne_b865_c935 : b865 ≠ c935 := (sn935 b865 sf935_b865).1
  have ne_b865_v935 : b865 ≠ v935 := (sn935 b865 sf935_b865).2
  have sf935_va_871 : Safe Z own_EL T935.vm h935 va_871 := CHr.safe Cq935 f938.lt sp935_va_871
  have ne_va_871_c935 : va_871 ≠ c935 := (sn935 va_871 sf935_va_871).1
  have ne_va_871_v935 : va_871 ≠ v935 := (sn935 va_871 sf935_va_871).2
  have sf935_vb_896 : Safe Z own_EL T935.vm h935 vb_896 := CHr.safe Cq935 nm934.lt sp935_vb_896
  have ne_vb_896_c935 : vb_896 ≠ c935 := (sn935 vb_896 sf935_vb_896).1
  have ne_vb_896_v935 : vb_896 ≠ v935 := (sn935 vb_896 sf935_vb_896).2
  have f941 : Exa Z h935 b865 "java/lang/StringBuilder" := (Exa.ext E935 f936)
  have f942 : Fld Z h935 b865 "java/lang/AbstractStringBuilder" "value" "[B" (.ref vb_896) := (Fld.ext E935 p929_0)
  have f943 : Fld Z h935 b865 "java/lang/AbstractStringBuilder" "coder" "B" (.int 0) := (Fld.ext E935 p929_1)
  have f944 : Fld Z h935 b865 "java/lang/AbstractStringBuilder" "count" "I" (.int 30) := (Fld.ext E935 p929_2)
  have f945 : Arv Z h935 vb_896 kb_896 .byte (34 : Int32) (([(65 : Int32), (32 : Int32), (115 : Int32), (117 : Int32), (98 : Int32), (115 : Int32), (99 : Int32), (114 : Int32), (105 : Int32), (112 : Int32), (116 : Int32), (105 : Int32), (111 : Int32), (110 : Int32), (32 : Int32), (110 : Int32), (97 : Int32), (109 : Int32), (101 : Int32), (32 : Int32), (105 : Int32), (115 : Int32), (32 : Int32), (51 : Int32), (32 : Int32), (116 : Int32), (111 : Int32), (32 : Int32), (54 : Int32), (52 : Int32)] : List Int32).map Value.int) (.int 0) := (Arv.ext nm934 E935)
  have f946 : Exa Z h935 c874 "java/lang/String" := (Exa.ext E935 (Exa.keep (Exa.keep (Exa.ext E914 (Exa.keep (Exa.keep f902 K896q) K908q)) K919q) K929q))
  have f947 : Arv Z h935 v874 kc874 .byte (2 : Int32) [(.int 65), (.int 32)] (.int 0) := (Arv.ext (Arv.keep (Arv.keep (Arv.ext (Arv.keep (Arv.keep f903 K896q (ninS (Ne.symm ne_b865_v874) nin0)) K908q (ninS (Ne.symm ne_b865_v874) (ninS ne_v874_vb_896 nin0))) E914) K919q (ninS (Ne.symm ne_b865_v874) (ninS ne_v874_vb_896 nin0))) K929q (ninS (Ne.symm ne_b865_v874) (ninS ne_v874_vb_896 nin0))) E935)
  have f948 : Arv Z h935 va_871 kv_871 .byte (16 : Int32) (([(65 : Int32), (32 : Int32), (115 : Int32), (117 : Int32), (98 : Int32), (115 : Int32), (99 : Int32), (114 : Int32), (105 : Int32), (112 : Int32), (116 : Int32), (105 : Int32), (111 : Int32), (110 : Int32)] : List Int32).map Value.int) (.int 0) := (Arv.ext f938 E935)
  have f949 : Exa Z h935 c893 "java/lang/String" := (Exa.ext E935 (Exa.keep (Exa.keep (Exa.ext E914 (Exa.keep (Exa.keep A893 K896q) K908q)) K919q) K929q))
  have f950 : Arv Z h935 v893 kc893 .byte (9 : Int32) [(.int 32), (.int 110), (.int 97), (.int 109), (.int 101), (.int 32), (.int 105), (.int 115), (.int 32)] (.int 0) := (Arv.ext (Arv.keep (Arv.keep (Arv.ext (Arv.keep (Arv.keep V893 K896q (ninS (Ne.symm ne_b865_v893) nin0)) K908q (ninS (Ne.symm ne_b865_v893) (ninS ne_v893_vb_896 nin0))) E914) K919q (ninS (Ne.symm ne_b865_v893) (ninS ne_v893_vb_896 nin0))) K929q (ninS (Ne.symm ne_b865_v893) (ninS ne_v893_vb_896 nin0))) E935)
  have f951 : Exa Z h935 c914 "java/lang/String" := (Exa.ext E935 (Exa.keep (Exa.keep A914 K919q) K929q))
  have f952 : Arv Z h935 v914 kc914 .byte (4 : Int32) [(.int 32), (.int 116), (.int 111), (.int 32)] (.int 0) := (Arv.ext (Arv.keep (Arv.keep V914 K919q (ninS (Ne.symm ne_b865_v914) (ninS (Ne.symm ne_vb_896_v914) nin0))) K929q (ninS (Ne.symm ne_b865_v914) (ninS (Ne.symm ne_vb_896_v914) nin0))) E935)
  obtain ⟨T940, v940, L940, X940, q940, st940⟩ := callVi X935 hx hZ (y := own_m36) (z := own_m36) hown (own_w hw (i := 37) rfl) (own_w hw (i := 38) rfl) (notFace_of_selects (args := #[]) (mvT hZ (own_w hw (i := 40) rfl))) (own_w hw (i := 40) rfl) (own_w hw (i := 39) rfl) (own_w hw (i := 41) rfl) (own_w hw (i := 18) rfl) (by decide) (rm_sba_30_34_34 hw G b865 c935 v935 kc935 (([(32 : Int32), (65 : Int32), (83 : Int32), (67 : Int32), (73 : Int32), (73 : Int32), (32 : Int32), (108 : Int32), (101 : Int32), (116 : Int32), (116 : Int32), (101 : Int32), (114 : Int32), (115 : Int32), (44 : Int32), (32 : Int32), (100 : Int32), (105 : Int32), (103 : Int32), (105 : Int32), (116 : Int32), (115 : Int32), (32 : Int32), (111 : Int32), (114 : Int32), (32 : Int32), (104 : Int32), (121 : Int32), (112 : Int32), (104 : Int32), (101 : Int32), (110 : Int32), (115 : Int32), (46 : Int32)] : List Int32)) vb_896 kb_896 (([(65 : Int32), (32 : Int32), (115 : Int32), (117 : Int32), (98 : Int32), (115 : Int32), (99 : Int32), (114 : Int32), (105 : Int32), (112 : Int32), (116 : Int32), (105 : Int32), (111 : Int32), (110 : Int32), (32 : Int32), (110 : Int32), (97 : Int32), (109 : Int32), (101 : Int32), (32 : Int32), (105 : Int32), (115 : Int32), (32 : Int32), (51 : Int32), (32 : Int32), (116 : Int32), (111 : Int32), (32 : Int32), (54 : Int32), (52 : Int32)] : List Int32)) h935 O935 (rfl) (rfl) f941 f942 f943 f944 A935 Fv935 Fc935 V935 f945 g_b865 g_vb_896 ne_b865_vb_896 (Ne.symm ne_b865_c935) (Ne.symm ne_b865_v935) (Ne.symm ne_vb_896_c935) (Ne.symm ne_vb_896_v935)) e935 (W := 0) (by decide) (by decide) (by decide) (by decide) f941 (g := (mkF m 45 #[rv (A 3)] [(.ref c935), (.ref b865)])) rfl (by rw [hml]; rfl) (argsL := [(.ref c935)]) (rest := []) (lenOf pd81 rfl) rfl rfl (Nat.le_of_eq rfl) (D d0_45)
  obtain ⟨vb_940, kb_940, rfl, N940q, K940q, p940_0, p940_1, p940_2, p940_3, p940_4⟩ := q940
  have N940 := Fr.app N929 N940q
  have O954 := Old0.keep O935 K940q (allS g_b865 all0)
  have K954 := Keep.trans K935 K940q (allS (Or.inr z_b865) all0)
  have C953 := CHr.trans C935 (CHr.keep K940q (sfS (Safe.exa hZ.alike f941 (by decide) (by decide)) sf0) C935.1)
  have hk := Nat.le_trans hk K940q.1
  have z_vb_940 : h0.size ≤ vb_940 := Nat.le_trans K935.1 p940_0
  have g_vb_940 : Z.heap.size ≤ vb_940 := Nat.le_trans O935.1 p940_0
  have ne_b865_vb_940 : b865 ≠ vb_940 := Nat.ne_of_lt (Nat.lt_of_lt_of_le f941.lt p940_0)
  have ne_c874_vb_940 : c874 ≠ vb_940 := Nat.ne_of_lt (Nat.lt_of_lt_of_le f946.lt p940_0)
  have ne_v874_vb_940 : v874 ≠ vb_940 := Nat.ne_of_lt (Nat.lt_of_lt_of_le f947.lt p940_0)
  have ne_va_871_vb_940 : va_871 ≠ vb_940 := Nat.ne_of_lt (Nat.lt_of_lt_of_le f948.lt p940_0)
  have ne_c893_vb_940 : c893 ≠ vb_940 := Nat.ne_of_lt (Nat.lt_of_lt_of_le f949.lt p940_0)
  have ne_v893_vb_940 : v893 ≠ vb_940 := Nat.ne_of_lt (Nat.lt_of_lt_of_le f950.lt p940_0)
  have ne_c914_vb_940 : c914 ≠ vb_940 := Nat.ne_of_lt (Nat.lt_of_lt_of_le f951.lt p940_0)
  have ne_v914_vb_940 : v914 ≠ vb_940 := Nat.ne_of_lt (Nat.lt_of_lt_of_le f952.lt p940_0)
  have ne_vb_896_vb_940 : vb_896 ≠ vb_940 := Nat.ne_of_lt (Nat.lt_of_lt_of_le f945.lt p940_0)
  have ne_c935_vb_940 : c935 ≠ vb_940 := Nat.ne_of_lt (Nat.lt_of_lt_of_le A935.lt p940_0)
  have ne_v935_vb_940 : v935 ≠ vb_940 := Nat.ne_of_lt (Nat.lt_of_lt_of_le V935.lt p940_0)
  have nm955 : Arv Z T940.heap vb_940 kb_940 .byte (70 : Int32) (([(65 : Int32), (32 : Int32), (115 : Int32), (117 : Int32), (98 : Int32), (115 : Int32), (99 : Int32), (114 : Int32), (105 : Int32), (112 : Int32), (116 : Int32), (105 : Int32), (111 : Int32), (110 : Int32), (32 : Int32), (110 : Int32), (97 : Int32), (109 : Int32), (101 : Int32), (32 : Int32), (105 : Int32), (115 : Int32), (32 : Int32), (51 : Int32), (32 : Int32), (116 : Int32), (111 : Int32), (32 : Int32), (54 : Int32), (52 : Int32), (32 : Int32), (65 : Int32), (83 : Int32), (67 : Int32), (73 : Int32), (73 : Int32), (32 : Int32), (108 : Int32), (101 : Int32), (116 : Int32), (116 : Int32), (101 : Int32), (114 : Int32), (115 : Int32), (44 : Int32), (32 : Int32), (100 : Int32), (105 : Int32), (103 : Int32), (105 : Int32), (116 : Int32), (115 : Int32), (32 : Int32), (111 : Int32), (114 : Int32), (32 : Int32), (104 : Int32), (121 : Int32), (112 : Int32), (104 : Int32), (101 : Int32), (110 : Int32), (115 : Int32), (46 : Int32)] : List Int32).map Value.int) (.int 0) := p940_4
  have f957 : Exa Z T940.heap b865 "java/lang/StringBuilder" := (Exa.keep f941 K940q)
  have f958 : Exa Z T940.heap c874 "java/lang/String" := (Exa.keep f946 K940q)
  have f959 : Arv Z T940.heap v874 kc874 .byte (2 : Int32) [(.int 65), (.int 32)] (.int 0) := (Arv.keep f947 K940q (ninS (Ne.symm ne_b865_v874) nin0))
  have f960 : Arv Z T940.heap va_871 kv_871 .byte (16 : Int32) (([(65 : Int32), (32 : Int32), (115 : Int32), (117 : Int32), (98 : Int32), (115 : Int32), (99 : Int32), (114 : Int32), (105 : Int32), (112 : Int32), (116 : Int32), (105 : Int32), (111 : Int32), (110 : Int32)] : List Int32).map Value.int) (.int 0) := (Arv.keep f948 K940q (ninS (Ne.symm ne_b865_va_871) nin0))
  have f961 : Exa Z T940.heap c893 "java/lang/String" := (Exa.keep f949 K940q)
  have f962 : Arv Z T940.heap v893 kc893 .byte (9 : Int32) [(.int 32), (.int 110), (.int 97), (.int 109), (.int 101), (.int 32), (.int 105), (.int 115), (.int 32)] (.int 0) := (Arv.keep f950 K940q (ninS (Ne.symm ne_b865_v893) nin0))
  have f963 : Exa Z T940.heap c914 "java/lang/String" := (Exa.keep f951 K940q)
  have f964 : Arv Z T940.heap v914 kc914 .byte (4 : Int32) [(.int 32), (.int 116), (.int 111), (.int 32)] (.int 0) := (Arv.keep f952 K940q (ninS (Ne.symm ne_b865_v914) nin0))
  have f965 : Arv Z T940.heap vb_896 kb_896 .byte (34 : Int32) (([(65 : Int32), (32 : Int32), (115 : Int32), (117 : Int32), (98 : Int32), (115 : Int32), (99 : Int32), (114 : Int32), (105 : Int32), (112 : Int32), (116 : Int32), (105 : Int32), (111 : Int32), (110 : Int32), (32 : Int32), (110 : Int32), (97 : Int32), (109 : Int32), (101 : Int32), (32 : Int32), (105 : Int32), (115 : Int32), (32 : Int32), (51 : Int32), (32 : Int32), (116 : Int32), (111 : Int32), (32 : Int32), (54 : Int32), (52 : Int32)] : List Int32).map Value.int) (.int 0) := (Arv.keep f945 K940q (ninS (Ne.symm ne_b865_vb_896) nin0))
  have f966 : Exa Z T940.heap c935 "java/lang/String" := (Exa.keep A935 K940q)
  have f967 : Arv Z T940.heap v935 kc935 .byte (34 : Int32) [(.int 32), (.int 65), (.int 83), (.int 67), (.int 73), (.int 73), (.int 32), (.int 108), (.int 101), (.int 116), (.int 116), (.int 101), (.int 114), (.int 115), (.int 44), (.int 32), (.int 100), (.int 105), (.int 103), (.int 105), (.int 116), (.int 115), (.int 32), (.int 111), (.int 114), (.int 32), (.int 104), (.int 121), (.int 112), (.int 104), (.int 101), (.int 110), (.int 115), (.int 46)] (.int 0) := (Arv.keep V935 K940q (ninS (Ne.symm ne_b865_v935) nin0))
  obtain ⟨T956, v956, L956, X956, q956, st956⟩ := callVi X940 hx hZ (y := own_m78) (z := own_m78) hown (own_w hw (i := 142) rfl) (own_w hw (i := 143) rfl) (notFace_of_selects (args := #[]) (mvT hZ (own_w hw (i := 145) rfl))) (own_w hw (i := 145) rfl) (own_w hw (i := 144) rfl) (own_w hw (i := 146) rfl) (own_w hw (i := 18) rfl) (by decide) (rm_tos_64 hw G b865 vb_940 kb_940 (([(65 : Int32), (32 : Int32), (115 : Int32), (117 : Int32), (98 : Int32), (115 : Int32), (99 : Int32), (114 : Int32), (105 : Int32), (112 : Int32), (116 : Int32), (105 : Int32), (111 : Int32), (110 : Int32), (32 : Int32), (110 : Int32), (97 : Int32), (109 : Int32), (101 : Int32), (32 : Int32), (105 : Int32), (115 : Int32), (32 : Int32), (51 : Int32), (32 : Int32), (116 : Int32), (111 : Int32), (32 : Int32), (54 : Int32), (52 : Int32), (32 : Int32), (65 : Int32), (83 : Int32), (67 : Int32), (73 : Int32), (73 : Int32), (32 : Int32), (108 : Int32), (101 : Int32), (116 : Int32), (116 : Int32), (101 : Int32), (114 : Int32), (115 : Int32), (44 : Int32), (32 : Int32), (100 : Int32), (105 : Int32), (103 : Int32), (105 : Int32), (116 : Int32), (115 : Int32), (32 : Int32), (111 : Int32), (114 : Int32), (32 : Int32), (104 : Int32), (121 : Int32), (112 : Int32), (104 : Int32), (101 : Int32), (110 : Int32), (115 : Int32), (46 : Int32)] : List Int32)) T940.heap O954 (rfl) f957 p940_1 p940_2 p940_3 nm955) rfl (W := 0) (by decide) (by decide) (by decide) (by decide) f957 (g := (mkF m 48 #[rv (A 3)] [(.ref b865)])) rfl (by rw [hml]; rfl) (argsL := []) (rest := []) (lenOf pd83 rfl) rfl rfl (Nat.le_of_eq rfl) (D d0_48)
  obtain ⟨so_956, vb_956, kb_956, rfl, N956q, K956q, p956_0, p956_1, p956_2, p956_3, p956_4, p956_5⟩ := q956
  have N956 := Fr.app N940 N956q
  have O969 := Old0.keep O954 K956q all0
  have K969 := Keep.trans K954 K956q all0
  have C968 := CHr.trans C953 (CHr.keep K956q sf0 C953.1)
  have hk := Nat.le_trans hk K956q.1
  have z_so_956 : h0.size ≤ so_956 := Nat.le_trans K954.1 p956_0
  have g_so_956 : Z.heap.size ≤ so_956 := Nat.le_trans O954.1 p956_0
  have ne_b865_so_956 : b865 ≠ so_956 := Nat.ne_of_lt (Nat.lt_of_lt_of_le f957.lt p956_0)
  have ne_c874_so_956 : c874 ≠ so_956 := Nat.ne_of_lt (Nat.lt_of_lt_of_le f958.lt p956_0)
  have ne_v874_so_956 : v874 ≠ so_956 := Nat.ne_of_lt (Nat.lt_of_lt_of_le f959.lt p956_0)
  have ne_va_871_so_956 : va_871 ≠ so_956 := Nat.ne_of_lt (Nat.lt_of_lt_of_le f960.lt p956_0)
  have ne_c893_so_956 : c893 ≠ so_956 := Nat.ne_of_lt (Nat.lt_of_lt_of_le f961.lt p956_0)
  have ne_v893_so_956 : v893 ≠ so_956 := Nat.ne_of_lt (Nat.lt_of_lt_of_le f962.lt p956_0)
  have ne_c914_so_956 : c914 ≠ so_956 := Nat.ne_of_lt (Nat.lt_of_lt_of_le f963.lt p956_0)
  have ne_v914_so_956 : v914 ≠ so_956 := Nat.ne_of_lt (Nat.lt_of_lt_of_le f964.lt p956_0)
  have ne_vb_896_so_956 : vb_896 ≠ so_956 := Nat.ne_of_lt (Nat.lt_of_lt_of_le f965.lt p956_0)
  have ne_c935_so_956 : c935 ≠ so_956 := Nat.ne_of_lt (Nat.lt_of_lt_of_le f966.lt p956_0)
  have ne_v935_so_956 : v935 ≠ so_956 := Nat.ne_of_lt (Nat.lt_of_lt_of_le f967.lt p956_0)
  have ne_vb_940_so_956 : vb_940 ≠ so_956 := Nat.ne_of_lt (Nat.lt_of_lt_of_le nm955.lt p956_0)
  have z_vb_956 : h0.size ≤ vb_956 := Nat.le_trans K954.1 p956_1
  have g_vb_956 : Z.heap.size ≤ vb_956 := Nat.le_trans O954.1 p956_1
  have ne_b865_vb_956 : b865 ≠ vb_956 := Nat.ne_of_lt (Nat.lt_of_lt_of_le f957.lt p956_1)
  have ne_c874_vb_956 : c874 ≠ vb_956 := Nat.ne_of_lt (Nat.lt_of_lt_of_le f958.lt p956_1)
  have ne_v874_vb_956 : v874 ≠ vb_956 := Nat.ne_of_lt (Nat.lt_of_lt_of_le f959.lt p956_1)
  have ne_va_871_vb_956 : va_871 ≠ vb_956 := Nat.ne_of_lt (Nat.lt_of_lt_of_le f960.lt p956_1)
  have ne_c893_vb_956 : c893 ≠ vb_956 := Nat.ne_of_lt (Nat.lt_of_lt_of_le f961.lt p956_1)
  have ne_v893_vb_956 : v893 ≠ vb_956 := Nat.ne_of_lt (Nat.lt_of_lt_of_le f962.lt p956_1)
  have ne_c914_vb_956 : c914 ≠ vb_956 := Nat.ne_of_lt (Nat.lt_of_lt_of_le f963.lt p956_1)
  have ne_v914_vb_956 : v914 ≠ vb_956 := Nat.ne_of_lt (Nat.lt_of_lt_of_le f964.lt p956_1)
  have ne_vb_896_vb_956 : vb_896 ≠ vb_956 := Nat.ne_of_lt (Nat.lt_of_lt_of_le f965.lt p956_1)
  have ne_c935_vb_956 : c935 ≠ vb_956 := Nat.ne_of_lt (Nat.lt_of_lt_of_le f966.lt p956_1)
  have ne_v935_vb_956 : v935 ≠ vb_956 := Nat.ne_of_lt (Nat.lt_of_lt_of_le f967.lt p956_1)
  have ne_vb_940_vb_956 : vb_940 ≠ vb_956 := Nat.ne_of_lt (Nat.lt_of_lt_of_le nm955.lt p956_1)
  refine GoS.of (T' := T956) (f' := (mkF m 51 #[rv (A 3)] [(.ref so_956)])) (fun _ k => st935 _ (st940 _ (st956 _ k))) ?_
  exact GoS.retA X956 hx hlk hS hk hZ hEL C968 rfl hret rfl rfl (D d0_51) (by decide) (by decide) ⟨so_956, vb_956, kb_956, rfl, N956, K969, z_so_956, p956_2, p956_3, p956_4, p956_5⟩
theorem pd86 : parseMethodDescriptor "(Ljava/lang/Object;)Z" = some ⟨[(.object "java/lang/Object")], some .boolean⟩ := by decide +kernel
theorem ef_rm_law (m : MethodId) (p0 : Int32) : entryFrame m #[(.int p0)] maxLocals = mkF m 0 #[iv p0, .unset, .unset, .unset] [] := by first | (simp [entryFrame, mkF, argsToLocals, Value.category, maxLocals]; done) | rfl
theorem pn87 : plainFor (⟨"com/example/patient_courier/patientcourier/NameRuleRequirementPinLaw", "law", "(I)Z"⟩ : MethodName) = true := by first | exact plainFor_of_name (by first | (simp [plainName, overriddenIn]; done) | decide +kernel) | decide +kernel
set_option maxRecDepth 65536 in
set_option maxHeartbeats 40000000 in
theorem rm_law {l : Launch} {Z : State} {a0 : Array Value} {A : Nat → Addr} {KC : Nat → Cell} {IC : Nat → Int32} {VC : Nat → Value} (hw : ∀ d ∈ tables_1, d.before a0 Z = true) (G : own_Ctx Z A KC IC VC) (p0 : Int32)  (h0 : Heap) (O0 : Ext Z.heap h0)  :
    OkS l Z own_EL x code maxLocals ret room_1 #[(.int p0)] h0
      (fun v h L => v = some (.int (1 : Int32)) ∧ (Fr Z.heap.size L)) := by
  refine OkS.mk pn87 ?_
  intro p e s m below meth c T0 hx hby hml hown hnm hret hlk hZ e0 C0 hS X0
  have hk := Nat.zero_le h0.size
  have hEL := own_EW hw
  have hml : c.maxLocals = 4 := hml
  have hown : s.vm.findClass "com/example/patient_courier/patientcourier/NameRuleRequirementPinLaw" = some m.cls := hown
  refine GoS.cast (ef_rm_law m p0) ?_
  obtain ⟨S_TOPIC, E_s_TOPIC, -, -, -, -, -, -, -, S_SUBSCRIPTION, E_s_SUBSCRIPTION, -⟩ := id G
  have D := @hb _ _ hby
  have N0 := Fr.nil Z.heap.size
  have K0 : Keep h0 h0 [] := Keep.refl _ _
  refine GoS.of (T' := T0) (f' := (mkF m 3 #[iv p0, .unset, .unset, .unset] [(.int (p0 &&& (1 : Int32)))])) (fun _ k => XS.iloadN X0.here hx rfl (D at_0) rfl (XS.iconst X0.here hx rfl (D at_1) (XS.iand X0.here hx rfl (D at_2) rfl k))) ?_
  by_cases hc970 : (p0 &&& (1 : Int32)) = (0 : Int32)
  · skip
    obtain ⟨T971, X971, e971, st971⟩ := getS2 X0 hx hZ hown (host := "") (Or.inl (own_w hw (i := 0) rfl)) Via.refl e0 (Sta.ext O0 S_TOPIC) (g := (mkF m 6 #[iv p0, .unset, .unset, .unset] [])) rfl (D at_6)
    refine GoS.of (T' := T971) (f' := (mkF m 10 #[iv p0, rv (A 0), .unset, .unset] [])) (fun _ k => XS.ifNo X0.here hx rfl (D at_3) rfl ((if0 _ _).trans (teq hc970).2) (st971 _ (XS.astoreN X971.here hx rfl (D at_9) rfl rfl (l' := #[iv p0, rv (A 0), .unset, .unset]) rfl k))) ?_
    obtain ⟨c972, T972, h972, k1972, v972, kc972, X972, e972, E972, hS, hk972, hZ, hown, A972, Fc972, Fv972, V972, -, -, Cq972, -, sn972, st972⟩ := ldcCH X971 hx hZ hown (own_w hw (i := 3) rfl) (own_wS hw) e971 hS hk hEL (by decide) C0.1 (vs := [(.int 65), (.int 32), (.int 116), (.int 111), (.int 112), (.int 105), (.int 99), (.int 32), (.int 110), (.int 97), (.int 109), (.int 101), (.int 32), (.int 105), (.int 115), (.int 32), (.int 51), (.int 32), (.int 116), (.int 111), (.int 32), (.int 53), (.int 48), (.int 32), (.int 65), (.int 83), (.int 67), (.int 73), (.int 73), (.int 32), (.int 108), (.int 101), (.int 116), (.int 116), (.int 101), (.int 114), (.int 115), (.int 44), (.int 32), (.int 100), (.int 105), (.int 103), (.int 105), (.int 116), (.int 115), (.int 32), (.int 111), (.int 114), (.int 32), (.int 104), (.int 121), (.int 112), (.int 104), (.int 101), (.int 110), (.int 115), (.int 46)]) (z := (57 : Int32)) ⟨by decide +kernel, by decide +kernel⟩ (by decide) rfl (g := (mkF m 10 #[iv p0, rv (A 0), .unset, .unset] [])) rfl (D at_10) (n := 228) (by decide +kernel) (by decide) (by decide) (by decide)
    have O972 := Old0.ext O0 E972
    have C972 := CHr.trans C0 Cq972
    have hk := hk972
    refine GoS.of (T' := T972) (f' := (mkF m 24 #[iv p0, rv (A 0), rv c972, .unset] [(.ref (A 0))])) (fun _ k => st972 _ (XS.astoreN X972.here hx rfl (D at_12) rfl rfl (l' := #[iv p0, rv (A 0), rv c972, .unset]) rfl (XS.goto X972.here hx rfl (pc0 := 13) (pc' := 23) rfl (D at_13) (by decide) (by decide) (XS.aloadN X972.here hx rfl (D at_23) rfl rfl k)))) ?_
    obtain ⟨T973, v973, L973, X973, q973, hS, hg973, hZ, hown, Cq973, st973⟩ := callViS X972 hx hZ (y := own_m84) (z := own_m84) hS hk hEL C972.1 hown (own_w hw (i := 11) rfl) (own_w hw (i := 12) rfl) (notFace_of_selects (args := #[]) (mvT hZ (own_w hw (i := 14) rfl))) (own_w hw (i := 14) rfl) (own_w hw (i := 13) rfl) (own_w hw (i := 15) rfl) (own_w hw (i := 1) rfl) (by decide) (rm_req_TOPIC hw G   h972 O972 ) e972 (W := 0) (by decide) (by decide) (by decide) (by decide) (Exa.ext O972 E_s_TOPIC) (g := (mkF m 24 #[iv p0, rv (A 0), rv c972, .unset] [(.ref (A 0))])) rfl (by rw [hml]; rfl) (argsL := []) (rest := []) (lenOf pd83 rfl) rfl rfl (Nat.le_of_eq rfl) (D at_24)
    obtain ⟨so_973, vb_973, kb_973, rfl, N973q, K973q, p973_0, p973_1, p973_2, p973_3, p973_4⟩ := q973
    have N973 := Fr.app N0 N973q
    have O974 := Old0.keep O972 K973q all0
    have C973 := CHr.trans C972 Cq973
    have hk := Nat.le_refl T973.heap.size
    have g_so_973 : Z.heap.size ≤ so_973 := Nat.le_trans O972.1 p973_0
    have ne_c972_so_973 : c972 ≠ so_973 := Nat.ne_of_lt (Nat.lt_of_lt_of_le A972.lt p973_0)
    have ne_v972_so_973 : v972 ≠ so_973 := Nat.ne_of_lt (Nat.lt_of_lt_of_le V972.lt p973_0)
    obtain ⟨T975, v975, L975, X975, q975, st975⟩ := callVi X973 hx hZ (y := own_m8) (z := own_m8) hown (own_w hw (i := 179) rfl) (own_w hw (i := 48) rfl) (notFace_of_selects (args := #[]) (mvT hZ (own_w hw (i := 50) rfl))) (own_w hw (i := 50) rfl) (own_w hw (i := 49) rfl) (own_w hw (i := 51) rfl) (own_w hw (i := 4) rfl) (by decide) (rm_len hw G so_973 vb_973 kb_973 ((57 : Int32)) (([(65 : Int32), (32 : Int32), (116 : Int32), (111 : Int32), (112 : Int32), (105 : Int32), (99 : Int32), (32 : Int32), (110 : Int32), (97 : Int32), (109 : Int32), (101 : Int32), (32 : Int32), (105 : Int32), (115 : Int32), (32 : Int32), (51 : Int32), (32 : Int32), (116 : Int32), (111 : Int32), (32 : Int32), (53 : Int32), (48 : Int32), (32 : Int32), (65 : Int32), (83 : Int32), (67 : Int32), (73 : Int32), (73 : Int32), (32 : Int32), (108 : Int32), (101 : Int32), (116 : Int32), (116 : Int32), (101 : Int32), (114 : Int32), (115 : Int32), (44 : Int32), (32 : Int32), (100 : Int32), (105 : Int32), (103 : Int32), (105 : Int32), (116 : Int32), (115 : Int32), (32 : Int32), (111 : Int32), (114 : Int32), (32 : Int32), (104 : Int32), (121 : Int32), (112 : Int32), (104 : Int32), (101 : Int32), (110 : Int32), (115 : Int32), (46 : Int32)] : List Int32)) T973.heap O974 p973_1 p973_2 p973_3 p973_4 (by decide)) rfl (W := 0) (by decide) (by decide) (by decide) (by decide) p973_1 (g := (mkF m 29 #[iv p0, rv (A 0), rv c972, rv so_973] [(.ref so_973)])) rfl (by rw [hml]; rfl) (argsL := []) (rest := []) (lenOf pd31 rfl) rfl rfl (Nat.le_of_eq rfl) (D at_29)
    obtain ⟨rfl, e975, rfl⟩ := q975
    have N975 := Fr.app N973 (Fr.nil _)
    have f977 : Exa Z T973.heap c972 "java/lang/String" := (Exa.keep A972 K973q)
    have f978 : Fld Z T973.heap c972 "java/lang/String" "value" "[B" (.ref v972) := (Fld.keep Fv972 K973q nin0)
    have f979 : Fld Z T973.heap c972 "java/lang/String" "coder" "B" (.int 0) := (Fld.keep Fc972 K973q nin0)
    have f980 : Arv Z T973.heap v972 kc972 .byte (57 : Int32) [(.int 65), (.int 32), (.int 116), (.int 111), (.int 112), (.int 105), (.int 99), (.int 32), (.int 110), (.int 97), (.int 109), (.int 101), (.int 32), (.int 105), (.int 115), (.int 32), (.int 51), (.int 32), (.int 116), (.int 111), (.int 32), (.int 53), (.int 48), (.int 32), (.int 65), (.int 83), (.int 67), (.int 73), (.int 73), (.int 32), (.int 108), (.int 101), (.int 116), (.int 116), (.int 101), (.int 114), (.int 115), (.int 44), (.int 32), (.int 100), (.int 105), (.int 103), (.int 105), (.int 116), (.int 115), (.int 32), (.int 111), (.int 114), (.int 32), (.int 104), (.int 121), (.int 112), (.int 104), (.int 101), (.int 110), (.int 115), (.int 46)] (.int 0) := (Arv.keep V972 K973q nin0)
    obtain ⟨T976, v976, L976, X976, q976, st976⟩ := callVi X975 hx hZ (y := own_m8) (z := own_m8) hown (own_w hw (i := 179) rfl) (own_w hw (i := 48) rfl) (notFace_of_selects (args := #[]) (mvT hZ (own_w hw (i := 50) rfl))) (own_w hw (i := 50) rfl) (own_w hw (i := 49) rfl) (own_w hw (i := 51) rfl) (own_w hw (i := 4) rfl) (by decide) (rm_len hw G c972 v972 kc972 ((57 : Int32)) (([(65 : Int32), (32 : Int32), (116 : Int32), (111 : Int32), (112 : Int32), (105 : Int32), (99 : Int32), (32 : Int32), (110 : Int32), (97 : Int32), (109 : Int32), (101 : Int32), (32 : Int32), (105 : Int32), (115 : Int32), (32 : Int32), (51 : Int32), (32 : Int32), (116 : Int32), (111 : Int32), (32 : Int32), (53 : Int32), (48 : Int32), (32 : Int32), (65 : Int32), (83 : Int32), (67 : Int32), (73 : Int32), (73 : Int32), (32 : Int32), (108 : Int32), (101 : Int32), (116 : Int32), (116 : Int32), (101 : Int32), (114 : Int32), (115 : Int32), (44 : Int32), (32 : Int32), (100 : Int32), (105 : Int32), (103 : Int32), (105 : Int32), (116 : Int32), (115 : Int32), (32 : Int32), (111 : Int32), (114 : Int32), (32 : Int32), (104 : Int32), (121 : Int32), (112 : Int32), (104 : Int32), (101 : Int32), (110 : Int32), (115 : Int32), (46 : Int32)] : List Int32)) T973.heap O974 f977 f978 f979 f980 (by decide)) e975 (W := 1) (by decide) (by decide) (by decide) (by decide) f977 (g := (mkF m 33 #[iv p0, rv (A 0), rv c972, rv so_973] [(.ref c972), (.int 57)])) rfl (by rw [hml]; rfl) (argsL := []) (rest := [(.int 57)]) (lenOf pd31 rfl) rfl rfl (Nat.le_of_eq rfl) (D at_33)
    obtain ⟨rfl, e976, rfl⟩ := q976
    have N976 := Fr.app N975 (Fr.nil _)
    obtain ⟨T982, v982, L982, X982, q982, st982⟩ := callVi X976 hx hZ (y := own_m21) (z := own_m21) hown (own_w hw (i := 180) rfl) (own_w hw (i := 181) rfl) (notFace_of_selects (args := #[]) (mvT hZ (own_w hw (i := 183) rfl))) (own_w hw (i := 183) rfl) (own_w hw (i := 182) rfl) (own_w hw (i := 184) rfl) (own_w hw (i := 4) rfl) (by decide) (rm_eq hw G so_973 c972 vb_973 v972 ((57 : Int32)) (([(65 : Int32), (32 : Int32), (116 : Int32), (111 : Int32), (112 : Int32), (105 : Int32), (99 : Int32), (32 : Int32), (110 : Int32), (97 : Int32), (109 : Int32), (101 : Int32), (32 : Int32), (105 : Int32), (115 : Int32), (32 : Int32), (51 : Int32), (32 : Int32), (116 : Int32), (111 : Int32), (32 : Int32), (53 : Int32), (48 : Int32), (32 : Int32), (65 : Int32), (83 : Int32), (67 : Int32), (73 : Int32), (73 : Int32), (32 : Int32), (108 : Int32), (101 : Int32), (116 : Int32), (116 : Int32), (101 : Int32), (114 : Int32), (115 : Int32), (44 : Int32), (32 : Int32), (100 : Int32), (105 : Int32), (103 : Int32), (105 : Int32), (116 : Int32), (115 : Int32), (32 : Int32), (111 : Int32), (114 : Int32), (32 : Int32), (104 : Int32), (121 : Int32), (112 : Int32), (104 : Int32), (101 : Int32), (110 : Int32), (115 : Int32), (46 : Int32)] : List Int32)) kb_973 kc972 T973.heap O974 p973_1 f977 p973_2 p973_3 f978 f979 p973_4 f980 (by decide)) e976 (W := 0) (by decide) (by decide) (by decide) (by decide) p973_1 (g := (mkF m 41 #[iv p0, rv (A 0), rv c972, rv so_973] [(.ref c972), (.ref so_973)])) rfl (by rw [hml]; rfl) (argsL := [(.ref c972)]) (rest := []) (lenOf pd86 rfl) rfl rfl (Nat.le_of_eq rfl) (D at_41)
    obtain ⟨rfl, N982q, K982q⟩ := q982
    have N982 := Fr.app N976 N982q
    have O984 := Old0.keep O974 K982q all0
    have C983 := CHr.trans C973 (CHr.keep K982q sf0 C973.1)
    have hk := Nat.le_trans hk K982q.1
    refine GoS.of (T' := T982) (f' := (mkF m 52 #[iv p0, rv (A 0), rv c972, rv so_973] [(.int 1)])) (fun _ k => st973 _ (XS.astoreN X973.here hx rfl (D at_27) rfl rfl (l' := #[iv p0, rv (A 0), rv c972, rv so_973]) rfl (XS.aloadN X973.here hx rfl (D at_28) rfl rfl (st975 _ (XS.aloadN X975.here hx rfl (D at_32) rfl rfl (st976 _ (XS.icmpNo X976.here hx rfl (D at_36) rfl (teq (by decide : (57 : Int32) = (57 : Int32))).2 (XS.aloadN X976.here hx rfl (D at_39) rfl rfl (XS.aloadN X976.here hx rfl (D at_40) rfl rfl (st982 _ (XS.ifNo X982.here hx rfl (D at_44) rfl ((if0 _ _).trans (feq (by decide : ¬ ((1 : Int32) = (0 : Int32)))).1) (XS.iconst X982.here hx rfl (D at_47) (XS.goto X982.here hx rfl (pc0 := 48) (pc' := 52) rfl (D at_48) (by decide) (by decide) k))))))))))))) ?_
    exact GoS.retB X982 hx hlk hS hk hZ hEL C983 rfl hret (by simp) (D at_52) (by decide) (by decide) (z' := (1 : Int32)) rfl ⟨rfl, N982⟩
  · skip
    obtain ⟨T986, X986, e986, st986⟩ := getS2 X0 hx hZ hown (host := "") (Or.inl (own_w hw (i := 190) rfl)) Via.refl e0 (Sta.ext O0 S_SUBSCRIPTION) (g := (mkF m 16 #[iv p0, .unset, .unset, .unset] [])) rfl (D at_16)
    refine GoS.of (T' := T986) (f' := (mkF m 20 #[iv p0, rv (A 3), .unset, .unset] [])) (fun _ k => XS.ifYes X0.here hx rfl (pc0 := 3) (pc' := 16) rfl (D at_3) rfl ((if0 _ _).trans (feq hc970).2) (by decide) (by decide) (st986 _ (XS.astoreN X986.here hx rfl (D at_19) rfl rfl (l' := #[iv p0, rv (A 3), .unset, .unset]) rfl k))) ?_
    obtain ⟨c987, T987, h987, k1987, v987, kc987, X987, e987, E987, hS, hk987, hZ, hown, A987, Fc987, Fv987, V987, -, -, Cq987, -, sn987, st987⟩ := ldcCH X986 hx hZ hown (own_w hw (i := 192) rfl) (own_wS hw) e986 hS hk hEL (by decide) C0.1 (vs := [(.int 65), (.int 32), (.int 115), (.int 117), (.int 98), (.int 115), (.int 99), (.int 114), (.int 105), (.int 112), (.int 116), (.int 105), (.int 111), (.int 110), (.int 32), (.int 110), (.int 97), (.int 109), (.int 101), (.int 32), (.int 105), (.int 115), (.int 32), (.int 51), (.int 32), (.int 116), (.int 111), (.int 32), (.int 54), (.int 52), (.int 32), (.int 65), (.int 83), (.int 67), (.int 73), (.int 73), (.int 32), (.int 108), (.int 101), (.int 116), (.int 116), (.int 101), (.int 114), (.int 115), (.int 44), (.int 32), (.int 100), (.int 105), (.int 103), (.int 105), (.int 116), (.int 115), (.int 32), (.int 111), (.int 114), (.int 32), (.int 104), (.int 121), (.int 112), (.int 104), (.int 101), (.int 110), (.int 115), (.int 46)]) (z := (64 : Int32)) ⟨by decide +kernel, by decide +kernel⟩ (by decide) rfl (g := (mkF m 20 #[iv p0, rv (A 3), .unset, .unset] [])) rfl (D at_20) (n := 256) (by decide +kernel) (by decide) (by decide) (by decide)
    have O987 := Old0.ext O0 E987
    have C987 := CHr.trans C0 Cq987
    have hk := hk987
    refine GoS.of (T' := T987) (f' := (mkF m 24 #[iv p0, rv (A 3), rv c987, .unset] [(.ref (A 3))])) (fun _ k => st987 _ (XS.astoreN X987.here hx rfl (D at_22) rfl rfl (l' := #[iv p0, rv (A 3), rv c987, .unset]) rfl (XS.aloadN X987.here hx rfl (D at_23) rfl rfl k))) ?_
    obtain ⟨T988, v988, L988, X988, q988, hS, hg988, hZ, hown, Cq988, st988⟩ := callViS X987 hx hZ (y := own_m84) (z := own_m84) hS hk hEL C987.1 hown (own_w hw (i := 11) rfl) (own_w hw (i := 12) rfl) (notFace_of_selects (args := #[]) (mvT hZ (own_w hw (i := 14) rfl))) (own_w hw (i := 14) rfl) (own_w hw (i := 13) rfl) (own_w hw (i := 15) rfl) (own_w hw (i := 1) rfl) (by decide) (rm_req_SUBSCRIPTION hw G   h987 O987 ) e987 (W := 0) (by decide) (by decide) (by decide) (by decide) (Exa.ext O987 E_s_SUBSCRIPTION) (g := (mkF m 24 #[iv p0, rv (A 3), rv c987, .unset] [(.ref (A 3))])) rfl (by rw [hml]; rfl) (argsL := []) (rest := []) (lenOf pd83 rfl) rfl rfl (Nat.le_of_eq rfl) (D at_24)
    obtain ⟨so_988, vb_988, kb_988, rfl, N988q, K988q, p988_0, p988_1, p988_2, p988_3, p988_4⟩ := q988
    have N988 := Fr.app N0 N988q
    have O989 := Old0.keep O987 K988q all0
    have C988 := CHr.trans C987 Cq988
    have hk := Nat.le_refl T988.heap.size
    have g_so_988 : Z.heap.size ≤ so_988 := Nat.le_trans O987.1 p988_0
    have ne_c987_so_988 : c987 ≠ so_988 := Nat.ne_of_lt (Nat.lt_of_lt_of_le A987.lt p988_0)
    have ne_v987_so_988 : v987 ≠ so_988 := Nat.ne_of_lt (Nat.lt_of_lt_of_le V987.lt p988_0)
    obtain ⟨T990, v990, L990, X990, q990, st990⟩ := callVi X988 hx hZ (y := own_m8) (z := own_m8) hown (own_w hw (i := 179) rfl) (own_w hw (i := 48) rfl) (notFace_of_selects (args := #[]) (mvT hZ (own_w hw (i := 50) rfl))) (own_w hw (i := 50) rfl) (own_w hw (i := 49) rfl) (own_w hw (i := 51) rfl) (own_w hw (i := 4) rfl) (by decide) (rm_len hw G so_988 vb_988 kb_988 ((64 : Int32)) (([(65 : Int32), (32 : Int32), (115 : Int32), (117 : Int32), (98 : Int32), (115 : Int32), (99 : Int32), (114 : Int32), (105 : Int32), (112 : Int32), (116 : Int32), (105 : Int32), (111 : Int32), (110 : Int32), (32 : Int32), (110 : Int32), (97 : Int32), (109 : Int32), (101 : Int32), (32 : Int32), (105 : Int32), (115 : Int32), (32 : Int32), (51 : Int32), (32 : Int32), (116 : Int32), (111 : Int32), (32 : Int32), (54 : Int32), (52 : Int32), (32 : Int32), (65 : Int32), (83 : Int32), (67 : Int32), (73 : Int32), (73 : Int32), (32 : Int32), (108 : Int32), (101 : Int32), (116 : Int32), (116 : Int32), (101 : Int32), (114 : Int32), (115 : Int32), (44 : Int32), (32 : Int32), (100 : Int32), (105 : Int32), (103 : Int32), (105 : Int32), (116 : Int32), (115 : Int32), (32 : Int32), (111 : Int32), (114 : Int32), (32 : Int32), (104 : Int32), (121 : Int32), (112 : Int32), (104 : Int32), (101 : Int32), (110 : Int32), (115 : Int32), (46 : Int32)] : List Int32)) T988.heap O989 p988_1 p988_2 p988_3 p988_4 (by decide)) rfl (W := 0) (by decide) (by decide) (by decide) (by decide) p988_1 (g := (mkF m 29 #[iv p0, rv (A 3), rv c987, rv so_988] [(.ref so_988)])) rfl (by rw [hml]; rfl) (argsL := []) (rest := []) (lenOf pd31 rfl) rfl rfl (Nat.le_of_eq rfl) (D at_29)
    obtain ⟨rfl, e990, rfl⟩ := q990
    have N990 := Fr.app N988 (Fr.nil _)
    have f992 : Exa Z T988.heap c987 "java/lang/String" := (Exa.keep A987 K988q)
    have f993 : Fld Z T988.heap c987 "java/lang/String" "value" "[B" (.ref v987) := (Fld.keep Fv987 K988q nin0)
    have f994 : Fld Z T988.heap c987 "java/lang/String" "coder" "B" (.int 0) := (Fld.keep Fc987 K988q nin0)
    have f995 : Arv Z T988.heap v987 kc987 .byte (64 : Int32) [(.int 65), (.int 32), (.int 115), (.int 117), (.int 98), (.int 115), (.int 99), (.int 114), (.int 105), (.int 112), (.int 116), (.int 105), (.int 111), (.int 110), (.int 32), (.int 110), (.int 97), (.int 109), (.int 101), (.int 32), (.int 105), (.int 115), (.int 32), (.int 51), (.int 32), (.int 116), (.int 111), (.int 32), (.int 54), (.int 52), (.int 32), (.int 65), (.int 83), (.int 67), (.int 73), (.int 73), (.int 32), (.int 108), (.int 101), (.int 116), (.int 116), (.int 101), (.int 114), (.int 115), (.int 44), (.int 32), (.int 100), (.int 105), (.int 103), (.int 105), (.int 116), (.int 115), (.int 32), (.int 111), (.int 114), (.int 32), (.int 104), (.int 121), (.int 112), (.int 104), (.int 101), (.int 110), (.int 115), (.int 46)] (.int 0) := (Arv.keep V987 K988q nin0)
    obtain ⟨T991, v991, L991, X991, q991, st991⟩ := callVi X990 hx hZ (y := own_m8) (z := own_m8) hown (own_w hw (i := 179) rfl) (own_w hw (i := 48) rfl) (notFace_of_selects (args := #[]) (mvT hZ (own_w hw (i := 50) rfl))) (own_w hw (i := 50) rfl) (own_w hw (i := 49) rfl) (own_w hw (i := 51) rfl) (own_w hw (i := 4) rfl) (by decide) (rm_len hw G c987 v987 kc987 ((64 : Int32)) (([(65 : Int32), (32 : Int32), (115 : Int32), (117 : Int32), (98 : Int32), (115 : Int32), (99 : Int32), (114 : Int32), (105 : Int32), (112 : Int32), (116 : Int32), (105 : Int32), (111 : Int32), (110 : Int32), (32 : Int32), (110 : Int32), (97 : Int32), (109 : Int32), (101 : Int32), (32 : Int32), (105 : Int32), (115 : Int32), (32 : Int32), (51 : Int32), (32 : Int32), (116 : Int32), (111 : Int32), (32 : Int32), (54 : Int32), (52 : Int32), (32 : Int32), (65 : Int32), (83 : Int32), (67 : Int32), (73 : Int32), (73 : Int32), (32 : Int32), (108 : Int32), (101 : Int32), (116 : Int32), (116 : Int32), (101 : Int32), (114 : Int32), (115 : Int32), (44 : Int32), (32 : Int32), (100 : Int32), (105 : Int32), (103 : Int32), (105 : Int32), (116 : Int32), (115 : Int32), (32 : Int32), (111 : Int32), (114 : Int32), (32 : Int32), (104 : Int32), (121 : Int32), (112 : Int32), (104 : Int32), (101 : Int32), (110 : Int32), (115 : Int32), (46 : Int32)] : List Int32)) T988.heap O989 f992 f993 f994 f995 (by decide)) e990 (W := 1) (by decide) (by decide) (by decide) (by decide) f992 (g := (mkF m 33 #[iv p0, rv (A 3), rv c987, rv so_988] [(.ref c987), (.int 64)])) rfl (by rw [hml]; rfl) (argsL := []) (rest := [(.int 64)]) (lenOf pd31 rfl) rfl rfl (Nat.le_of_eq rfl) (D at_33)
    obtain ⟨rfl, e991, rfl⟩ := q991
    have N991 := Fr.app N990 (Fr.nil _)
    obtain ⟨T997, v997, L997, X997, q997, st997⟩ := callVi X991 hx hZ (y := own_m21) (z := own_m21) hown (own_w hw (i := 180) rfl) (own_w hw (i := 181) rfl) (notFace_of_selects (args := #[]) (mvT hZ (own_w hw (i := 183) rfl))) (own_w hw (i := 183) rfl) (own_w hw (i := 182) rfl) (own_w hw (i := 184) rfl) (own_w hw (i := 4) rfl) (by decide) (rm_eq hw G so_988 c987 vb_988 v987 ((64 : Int32)) (([(65 : Int32), (32 : Int32), (115 : Int32), (117 : Int32), (98 : Int32), (115 : Int32), (99 : Int32), (114 : Int32), (105 : Int32), (112 : Int32), (116 : Int32), (105 : Int32), (111 : Int32), (110 : Int32), (32 : Int32), (110 : Int32), (97 : Int32), (109 : Int32), (101 : Int32), (32 : Int32), (105 : Int32), (115 : Int32), (32 : Int32), (51 : Int32), (32 : Int32), (116 : Int32), (111 : Int32), (32 : Int32), (54 : Int32), (52 : Int32), (32 : Int32), (65 : Int32), (83 : Int32), (67 : Int32), (73 : Int32), (73 : Int32), (32 : Int32), (108 : Int32), (101 : Int32), (116 : Int32), (116 : Int32), (101 : Int32), (114 : Int32), (115 : Int32), (44 : Int32), (32 : Int32), (100 : Int32), (105 : Int32), (103 : Int32), (105 : Int32), (116 : Int32), (115 : Int32), (32 : Int32), (111 : Int32), (114 : Int32), (32 : Int32), (104 : Int32), (121 : Int32), (112 : Int32), (104 : Int32), (101 : Int32), (110 : Int32), (115 : Int32), (46 : Int32)] : List Int32)) kb_988 kc987 T988.heap O989 p988_1 f992 p988_2 p988_3 f993 f994 p988_4 f995 (by decide)) e991 (W := 0) (by decide) (by decide) (by decide) (by decide) p988_1 (g := (mkF m 41 #[iv p0, rv (A 3), rv c987, rv so_988] [(.ref c987), (.ref so_988)])) rfl (by rw [hml]; rfl) (argsL := [(.ref c987)]) (rest := []) (lenOf pd86 rfl) rfl rfl (Nat.le_of_eq rfl) (D at_41)
    obtain ⟨rfl, N997q, K997q⟩ := q997
    have N997 := Fr.app N991 N997q
    have O999 := Old0.keep O989 K997q all0
    have C998 := CHr.trans C988 (CHr.keep K997q sf0 C988.1)
    have hk := Nat.le_trans hk K997q.1
    refine GoS.of (T' := T997) (f' := (mkF m 52 #[iv p0, rv (A 3), rv c987, rv so_988] [(.int 1)])) (fun _ k => st988 _ (XS.astoreN X988.here hx rfl (D at_27) rfl rfl (l' := #[iv p0, rv (A 3), rv c987, rv so_988]) rfl (XS.aloadN X988.here hx rfl (D at_28) rfl rfl (st990 _ (XS.aloadN X990.here hx rfl (D at_32) rfl rfl (st991 _ (XS.icmpNo X991.here hx rfl (D at_36) rfl (teq (by decide : (64 : Int32) = (64 : Int32))).2 (XS.aloadN X991.here hx rfl (D at_39) rfl rfl (XS.aloadN X991.here hx rfl (D at_40) rfl rfl (st997 _ (XS.ifNo X997.here hx rfl (D at_44) rfl ((if0 _ _).trans (feq (by decide : ¬ ((1 : Int32) = (0 : Int32)))).1) (XS.iconst X997.here hx rfl (D at_47) (XS.goto X997.here hx rfl (pc0 := 48) (pc' := 52) rfl (D at_48) (by decide) (by decide) k))))))))))))) ?_
    exact GoS.retB X997 hx hlk hS hk hZ hEL C998 rfl hret (by simp) (D at_52) (by decide) (by decide) (z' := (1 : Int32)) rfl ⟨rfl, N997⟩
set_option maxRecDepth 65536 in
set_option maxHeartbeats 40000000 in
theorem comes_1 {Post : Tables → Env → Array Value → State → Outcome → State → Prop} (hpost : ∀ tb e args s v u, (limb_1_1.after args s (.returned v) u = true ∧ limb_1_2.after args s (.returned v) u = true ∧ True) → ReturnedEndW s (.returned v) u (Jvm.fieldLocs frame_1_writes args s ++ Jvm.arrayLocs frame_1_arrays args s ++ Jvm.staticLocs frame_1_statics s) 32 6656 → Post tb e args s (.returned v) u) :
    ArmFor flags0 classFile x code maxLocals ret World_1 tables_1 room_1 Calls_1 rest_1 Pre_1 Post := by
  intro l hfl _ _ p e ha hc hk s m args below hf hA hF happ hP
  obtain ⟨hcalls, hrest, hpre⟩ := hP
  obtain ⟨-, -, -, hnamed, -, -, -, hat⟩ := (Spec.applies_iff hf).mp happ
  obtain ⟨hg, hn⟩ := and_e (Cond.before_iff.mp (show (Jvm.Cond.and given_1 narrow_1).before args s = true from hpre))
  obtain ⟨ga0, gb0⟩ := and_e hg
  obtain ⟨w0, rfl⟩ : ∃ w0 : Value, args = #[w0] := by
    have hs : args.size = 1 := by simpa [Cond.value, given_1] using ga0
    obtain ⟨L⟩ := args
    match L, hs with
    | [w0], _ => exact ⟨w0, rfl⟩
  have hw := fun d (hd : d ∈ tables_1) => atoms_spec (ws := Jvm.Cond.code x code maxLocals ret :: tables_1) hat d (List.mem_cons_of_mem _ hd)
  have hfit : Fit s := fun {y c} hc i hi => by
    obtain ⟨ha, rfl⟩ := Array.getElem?_eq_some_iff.mp hc
    have q := List.all_eq_true.mp ((Array.all_eq_true_iff_forall_mem.mp hF) _ (Array.getElem_mem ha)) i (List.mem_range.mpr hi)
    simpa [Array.getElem?_eq_getElem hi] using q
  obtain ⟨hsets, hown0⟩ := atoms_of _ (rest_1_c_eq ▸ (show rest_1_c.before _ s = true from hrest))
  obtain ⟨i0, ei0⟩ := is_v gb0
  obtain rfl : w0 = (.int i0) := Option.some.inj ei0
  obtain ⟨na1, nb1⟩ := and_e hn
  obtain ⟨s_TOPIC, ev_s_TOPIC⟩ := exa_v na1
  have S_TOPIC : Sta s s.heap "com/example/patient_courier/patientcourier/NameRule" "TOPIC" "Lcom/example/patient_courier/patientcourier/NameRule;" (.ref s_TOPIC) := Sta.start ev_s_TOPIC (Or.inr ⟨(own_w hw (i := 1) rfl), (own_w hw (i := 2) rfl)⟩)
  have E_s_TOPIC : Exa s s.heap s_TOPIC "com/example/patient_courier/patientcourier/NameRule" := Exa.start ev_s_TOPIC na1
  obtain ⟨na2, nb2⟩ := and_e nb1
  obtain ⟨s_TOPIC_kind, ev_s_TOPIC_kind⟩ := exa_v na2
  have F_s_TOPIC_kind : Fld s s.heap s_TOPIC "com/example/patient_courier/patientcourier/NameRule" "kind" "Ljava/lang/String;" (.ref s_TOPIC_kind) := Fld.start ((fld_at ev_s_TOPIC).symm.trans ev_s_TOPIC_kind)
  have E_s_TOPIC_kind : Exa s s.heap s_TOPIC_kind "java/lang/String" := Exa.start ev_s_TOPIC_kind na2
  obtain ⟨na3, nb3⟩ := and_e nb2
  obtain ⟨s_TOPIC_kind_value, ev_s_TOPIC_kind_value⟩ := arr_v na3
  have F_s_TOPIC_kind_value : Fld s s.heap s_TOPIC_kind "java/lang/String" "value" "[B" (.ref s_TOPIC_kind_value) := Fld.start ((fld_at ev_s_TOPIC_kind).symm.trans ev_s_TOPIC_kind_value)
  obtain ⟨cl_s_TOPIC_kind_value, A_s_TOPIC_kind_value⟩ := Arr.start ev_s_TOPIC_kind_value na3
  obtain ⟨na4, nb4⟩ := and_e nb3
  have E_s_TOPIC_kind_value : Exa s s.heap s_TOPIC_kind_value "[B" := Exa.start ev_s_TOPIC_kind_value na4
  obtain ⟨na5, nb5⟩ := and_e nb4
  have ev5 := eqI_v na5
  obtain ⟨na7, nb7⟩ := and_e nb5
  have ev7 := eqI_v na7
  have F_s_TOPIC_kind_coder : Fld s s.heap s_TOPIC_kind "java/lang/String" "coder" "B" (.int (0 : Int32)) := Fld.start ((fld_at ev_s_TOPIC_kind).symm.trans ev7)
  obtain ⟨na9, nb9⟩ := and_e nb7
  have ev9 := eqI_v na9
  have F_s_TOPIC_minLength : Fld s s.heap s_TOPIC "com/example/patient_courier/patientcourier/NameRule" "minLength" "I" (.int (3 : Int32)) := Fld.start ((fld_at ev_s_TOPIC).symm.trans ev9)
  obtain ⟨na11, nb11⟩ := and_e nb9
  have ev11 := eqI_v na11
  have F_s_TOPIC_maxLength : Fld s s.heap s_TOPIC "com/example/patient_courier/patientcourier/NameRule" "maxLength" "I" (.int (50 : Int32)) := Fld.start ((fld_at ev_s_TOPIC).symm.trans ev11)
  obtain ⟨na13, nb13⟩ := and_e nb11
  obtain ⟨s_SUBSCRIPTION, ev_s_SUBSCRIPTION⟩ := exa_v na13
  have S_SUBSCRIPTION : Sta s s.heap "com/example/patient_courier/patientcourier/NameRule" "SUBSCRIPTION" "Lcom/example/patient_courier/patientcourier/NameRule;" (.ref s_SUBSCRIPTION) := Sta.start ev_s_SUBSCRIPTION (Or.inr ⟨(own_w hw (i := 1) rfl), (own_w hw (i := 191) rfl)⟩)
  have E_s_SUBSCRIPTION : Exa s s.heap s_SUBSCRIPTION "com/example/patient_courier/patientcourier/NameRule" := Exa.start ev_s_SUBSCRIPTION na13
  obtain ⟨na14, nb14⟩ := and_e nb13
  obtain ⟨s_SUBSCRIPTION_kind, ev_s_SUBSCRIPTION_kind⟩ := exa_v na14
  have F_s_SUBSCRIPTION_kind : Fld s s.heap s_SUBSCRIPTION "com/example/patient_courier/patientcourier/NameRule" "kind" "Ljava/lang/String;" (.ref s_SUBSCRIPTION_kind) := Fld.start ((fld_at ev_s_SUBSCRIPTION).symm.trans ev_s_SUBSCRIPTION_kind)
  have E_s_SUBSCRIPTION_kind : Exa s s.heap s_SUBSCRIPTION_kind "java/lang/String" := Exa.start ev_s_SUBSCRIPTION_kind na14
  obtain ⟨na15, nb15⟩ := and_e nb14
  obtain ⟨s_SUBSCRIPTION_kind_value, ev_s_SUBSCRIPTION_kind_value⟩ := arr_v na15
  have F_s_SUBSCRIPTION_kind_value : Fld s s.heap s_SUBSCRIPTION_kind "java/lang/String" "value" "[B" (.ref s_SUBSCRIPTION_kind_value) := Fld.start ((fld_at ev_s_SUBSCRIPTION_kind).symm.trans ev_s_SUBSCRIPTION_kind_value)
  obtain ⟨cl_s_SUBSCRIPTION_kind_value, A_s_SUBSCRIPTION_kind_value⟩ := Arr.start ev_s_SUBSCRIPTION_kind_value na15
  obtain ⟨na16, nb16⟩ := and_e nb15
  have E_s_SUBSCRIPTION_kind_value : Exa s s.heap s_SUBSCRIPTION_kind_value "[B" := Exa.start ev_s_SUBSCRIPTION_kind_value na16
  obtain ⟨na17, nb17⟩ := and_e nb16
  have ev17 := eqI_v na17
  obtain ⟨na19, nb19⟩ := and_e nb17
  have ev19 := eqI_v na19
  have F_s_SUBSCRIPTION_kind_coder : Fld s s.heap s_SUBSCRIPTION_kind "java/lang/String" "coder" "B" (.int (0 : Int32)) := Fld.start ((fld_at ev_s_SUBSCRIPTION_kind).symm.trans ev19)
  obtain ⟨na21, nb21⟩ := and_e nb19
  have ev21 := eqI_v na21
  have F_s_SUBSCRIPTION_minLength : Fld s s.heap s_SUBSCRIPTION "com/example/patient_courier/patientcourier/NameRule" "minLength" "I" (.int (3 : Int32)) := Fld.start ((fld_at ev_s_SUBSCRIPTION).symm.trans ev21)
  obtain ⟨na23, nb23⟩ := and_e nb21
  have ev23 := eqI_v na23
  have F_s_SUBSCRIPTION_maxLength : Fld s s.heap s_SUBSCRIPTION "com/example/patient_courier/patientcourier/NameRule" "maxLength" "I" (.int (64 : Int32)) := Fld.start ((fld_at ev_s_SUBSCRIPTION).symm.trans ev23)
  obtain ⟨na25, nb25⟩ := and_e nb23
  have ev25 := eqI_v na25
  obtain ⟨na27, nb27⟩ := and_e nb25
  have ev27 := eqI_v na27
  obtain ⟨na29, nb29⟩ := and_e nb27
  have ev29 := eqI_v na29
  obtain ⟨na31, nb31⟩ := and_e nb29
  have ev31 := eqI_v na31
  obtain ⟨na33, nb33⟩ := and_e nb31
  have ev33 := eqI_v na33
  obtain ⟨na35, nb35⟩ := and_e nb33
  have ev35 := eqI_v na35
  obtain ⟨na37, nb37⟩ := and_e nb35
  have ev37 := eqI_v na37
  obtain ⟨na39, nb39⟩ := and_e nb37
  have ev39 := eqI_v na39
  obtain ⟨na41, nb41⟩ := and_e nb39
  have ev41 := eqI_v na41
  obtain ⟨na43, nb43⟩ := and_e nb41
  have ev43 := eqI_v na43
  obtain ⟨na45, nb45⟩ := and_e nb43
  have ev45 := eqI_v na45
  obtain ⟨na47, nb47⟩ := and_e nb45
  have ev47 := eqI_v na47
  obtain ⟨na49, nb49⟩ := and_e nb47
  have ev49 := eqI_v na49
  obtain ⟨na51, nb51⟩ := and_e nb49
  have ev51 := eqI_v na51
  obtain ⟨na53, nb53⟩ := and_e nb51
  have ev53 := eqI_v na53
  obtain ⟨na55, nb55⟩ := and_e nb53
  have ev55 := eqI_v na55
  have ev56 := eqI_v nb55
  have js1 := Cond.before_iff.mp (hsets _ (List.mem_of_getElem? (i := 1) rfl))
  obtain ⟨s_COMPACT_STRINGS, ev_s_COMPACT_STRINGS⟩ := is_v js1
  have S_COMPACT_STRINGS : Sta s s.heap "java/lang/String" "COMPACT_STRINGS" "Z" (.int s_COMPACT_STRINGS) := Sta.start ev_s_COMPACT_STRINGS (Or.inl (hsets _ (List.mem_of_getElem? (i := 0) rfl)))
  have js2 := Cond.before_iff.mp (hsets _ (List.mem_of_getElem? (i := 2) rfl))
  have hne_s_COMPACT_STRINGS_0 : ¬ (s_COMPACT_STRINGS = (0 : Int32)) := neI_v ev_s_COMPACT_STRINGS js2
  have js12 := Cond.before_iff.mp (hsets _ (List.mem_of_getElem? (i := 12) rfl))
  obtain ⟨s_DigitOnes, ev_s_DigitOnes⟩ := exa_v js12
  have S_DigitOnes : Sta s s.heap "java/lang/Integer" "DigitOnes" "[B" (.ref s_DigitOnes) := Sta.start ev_s_DigitOnes (Or.inl (hsets _ (List.mem_of_getElem? (i := 11) rfl)))
  have E_s_DigitOnes : Exa s s.heap s_DigitOnes "[B" := Exa.start ev_s_DigitOnes js12
  have js13 := Cond.before_iff.mp (hsets _ (List.mem_of_getElem? (i := 13) rfl))
  have ev57 := eqI_v js13
  have js17 := Cond.before_iff.mp (hsets _ (List.mem_of_getElem? (i := 17) rfl))
  obtain ⟨s_DigitTens, ev_s_DigitTens⟩ := exa_v js17
  have S_DigitTens : Sta s s.heap "java/lang/Integer" "DigitTens" "[B" (.ref s_DigitTens) := Sta.start ev_s_DigitTens (Or.inl (hsets _ (List.mem_of_getElem? (i := 16) rfl)))
  have E_s_DigitTens : Exa s s.heap s_DigitTens "[B" := Exa.start ev_s_DigitTens js17
  have js18 := Cond.before_iff.mp (hsets _ (List.mem_of_getElem? (i := 18) rfl))
  have ev58 := eqI_v js18
  obtain ⟨hl_s_TOPIC_kind_value, hz_s_TOPIC_kind_value⟩ := own_len ev_s_TOPIC_kind_value A_s_TOPIC_kind_value ev5
  have H_s_TOPIC_kind_value : HasL cl_s_TOPIC_kind_value 0 [(.int (116 : Int32)), (.int (111 : Int32)), (.int (112 : Int32)), (.int (105 : Int32)), (.int (99 : Int32))] := ⟨own_el ev_s_TOPIC_kind_value A_s_TOPIC_kind_value ev25, own_el ev_s_TOPIC_kind_value A_s_TOPIC_kind_value ev27, own_el ev_s_TOPIC_kind_value A_s_TOPIC_kind_value ev29, own_el ev_s_TOPIC_kind_value A_s_TOPIC_kind_value ev31, own_el ev_s_TOPIC_kind_value A_s_TOPIC_kind_value ev33, trivial⟩
  have V_s_TOPIC_kind_value : Arv s s.heap s_TOPIC_kind_value cl_s_TOPIC_kind_value.cls .byte (5 : Int32) [(.int (116 : Int32)), (.int (111 : Int32)), (.int (112 : Int32)), (.int (105 : Int32)), (.int (99 : Int32))] (.int (0 : Int32)) := Arv.start hfit A_s_TOPIC_kind_value hl_s_TOPIC_kind_value hz_s_TOPIC_kind_value (by decide) rfl H_s_TOPIC_kind_value
  obtain ⟨hl_s_SUBSCRIPTION_kind_value, hz_s_SUBSCRIPTION_kind_value⟩ := own_len ev_s_SUBSCRIPTION_kind_value A_s_SUBSCRIPTION_kind_value ev17
  have H_s_SUBSCRIPTION_kind_value : HasL cl_s_SUBSCRIPTION_kind_value 0 [(.int (115 : Int32)), (.int (117 : Int32)), (.int (98 : Int32)), (.int (115 : Int32)), (.int (99 : Int32)), (.int (114 : Int32)), (.int (105 : Int32)), (.int (112 : Int32)), (.int (116 : Int32)), (.int (105 : Int32)), (.int (111 : Int32)), (.int (110 : Int32))] := ⟨own_el ev_s_SUBSCRIPTION_kind_value A_s_SUBSCRIPTION_kind_value ev35, own_el ev_s_SUBSCRIPTION_kind_value A_s_SUBSCRIPTION_kind_value ev37, own_el ev_s_SUBSCRIPTION_kind_value A_s_SUBSCRIPTION_kind_value ev39, own_el ev_s_SUBSCRIPTION_kind_value A_s_SUBSCRIPTION_kind_value ev41, own_el ev_s_SUBSCRIPTION_kind_value A_s_SUBSCRIPTION_kind_value ev43, own_el ev_s_SUBSCRIPTION_kind_value A_s_SUBSCRIPTION_kind_value ev45, own_el ev_s_SUBSCRIPTION_kind_value A_s_SUBSCRIPTION_kind_value ev47, own_el ev_s_SUBSCRIPTION_kind_value A_s_SUBSCRIPTION_kind_value ev49, own_el ev_s_SUBSCRIPTION_kind_value A_s_SUBSCRIPTION_kind_value ev51, own_el ev_s_SUBSCRIPTION_kind_value A_s_SUBSCRIPTION_kind_value ev53, own_el ev_s_SUBSCRIPTION_kind_value A_s_SUBSCRIPTION_kind_value ev55, own_el ev_s_SUBSCRIPTION_kind_value A_s_SUBSCRIPTION_kind_value ev56, trivial⟩
  have V_s_SUBSCRIPTION_kind_value : Arv s s.heap s_SUBSCRIPTION_kind_value cl_s_SUBSCRIPTION_kind_value.cls .byte (12 : Int32) [(.int (115 : Int32)), (.int (117 : Int32)), (.int (98 : Int32)), (.int (115 : Int32)), (.int (99 : Int32)), (.int (114 : Int32)), (.int (105 : Int32)), (.int (112 : Int32)), (.int (116 : Int32)), (.int (105 : Int32)), (.int (111 : Int32)), (.int (110 : Int32))] (.int (0 : Int32)) := Arv.start hfit A_s_SUBSCRIPTION_kind_value hl_s_SUBSCRIPTION_kind_value hz_s_SUBSCRIPTION_kind_value (by decide) rfl H_s_SUBSCRIPTION_kind_value
  obtain ⟨cl_s_DigitOnes, A_s_DigitOnes⟩ := own_arrB ev_s_DigitOnes E_s_DigitOnes (own_w hw (i := 6) rfl) ev57
  obtain ⟨hl_s_DigitOnes, hz_s_DigitOnes⟩ := own_len ev_s_DigitOnes A_s_DigitOnes ev57
  have AD_s_DigitOnes : Arr s s.heap s_DigitOnes cl_s_DigitOnes .byte := A_s_DigitOnes
  have ZD_s_DigitOnes : cl_s_DigitOnes.slots.size = 100 := own_size100 hl_s_DigitOnes hz_s_DigitOnes
  have GD_s_DigitOnes_3 : cl_s_DigitOnes.slots[3]? = some (.int (51 : Int32)) := own_digits ev_s_DigitOnes A_s_DigitOnes ZD_s_DigitOnes (Cond.before_iff.mp (hsets _ (List.mem_of_getElem? (i := 14) rfl))) 3 (by decide) (v := .int (51 : Int32)) rfl ⟨_, rfl⟩
  have GD_s_DigitOnes_50 : cl_s_DigitOnes.slots[50]? = some (.int (48 : Int32)) := own_digits ev_s_DigitOnes A_s_DigitOnes ZD_s_DigitOnes (Cond.before_iff.mp (hsets _ (List.mem_of_getElem? (i := 14) rfl))) 50 (by decide) (v := .int (48 : Int32)) rfl ⟨_, rfl⟩
  have GD_s_DigitOnes_64 : cl_s_DigitOnes.slots[64]? = some (.int (52 : Int32)) := own_digits ev_s_DigitOnes A_s_DigitOnes ZD_s_DigitOnes (Cond.before_iff.mp (hsets _ (List.mem_of_getElem? (i := 14) rfl))) 64 (by decide) (v := .int (52 : Int32)) rfl ⟨_, rfl⟩
  obtain ⟨cl_s_DigitTens, A_s_DigitTens⟩ := own_arrB ev_s_DigitTens E_s_DigitTens (own_w hw (i := 6) rfl) ev58
  obtain ⟨hl_s_DigitTens, hz_s_DigitTens⟩ := own_len ev_s_DigitTens A_s_DigitTens ev58
  have AD_s_DigitTens : Arr s s.heap s_DigitTens cl_s_DigitTens .byte := A_s_DigitTens
  have ZD_s_DigitTens : cl_s_DigitTens.slots.size = 100 := own_size100 hl_s_DigitTens hz_s_DigitTens
  have GD_s_DigitTens_50 : cl_s_DigitTens.slots[50]? = some (.int (53 : Int32)) := own_digits ev_s_DigitTens A_s_DigitTens ZD_s_DigitTens (Cond.before_iff.mp (hsets _ (List.mem_of_getElem? (i := 19) rfl))) 50 (by decide) (v := .int (53 : Int32)) rfl ⟨_, rfl⟩
  have GD_s_DigitTens_64 : cl_s_DigitTens.slots[64]? = some (.int (54 : Int32)) := own_digits ev_s_DigitTens A_s_DigitTens ZD_s_DigitTens (Cond.before_iff.mp (hsets _ (List.mem_of_getElem? (i := 19) rfl))) 64 (by decide) (v := .int (54 : Int32)) rfl ⟨_, rfl⟩
  have hCH : CHv s own_EL s.vm s.heap := CHv.start (own_EW hw) (fun p hp => hcalls.1 p hp) (hsets _ (List.mem_of_getElem? (i := 2) rfl)) (own_w hw (i := 6) rfl) (own_w hw (i := 5) rfl)
  obtain ⟨n, o, h1, h2, h3, _, L, rfl, ⟨rfl, N⟩, -, hq⟩ := rm_law hw (A := fun n => ([s_TOPIC, s_TOPIC_kind, s_TOPIC_kind_value, s_SUBSCRIPTION, s_SUBSCRIPTION_kind, s_SUBSCRIPTION_kind_value, s_DigitOnes, s_DigitTens] : List Addr).getD n 0) (KC := fun n => ([cl_s_TOPIC_kind_value, cl_s_SUBSCRIPTION_kind_value, cl_s_DigitOnes, cl_s_DigitTens] : List Cell).getD n cl_s_TOPIC_kind_value) (IC := fun n => ([s_COMPACT_STRINGS] : List Int32).getD n 0) (VC := fun n => ([] : List Value).getD n .null) ⟨S_TOPIC, E_s_TOPIC, F_s_TOPIC_kind, E_s_TOPIC_kind, F_s_TOPIC_kind_value, E_s_TOPIC_kind_value, F_s_TOPIC_kind_coder, F_s_TOPIC_minLength, F_s_TOPIC_maxLength, S_SUBSCRIPTION, E_s_SUBSCRIPTION, F_s_SUBSCRIPTION_kind, E_s_SUBSCRIPTION_kind, F_s_SUBSCRIPTION_kind_value, E_s_SUBSCRIPTION_kind_value, F_s_SUBSCRIPTION_kind_coder, F_s_SUBSCRIPTION_minLength, F_s_SUBSCRIPTION_maxLength, S_COMPACT_STRINGS, hne_s_COMPACT_STRINGS_0, S_DigitOnes, E_s_DigitOnes, S_DigitTens, E_s_DigitTens, V_s_TOPIC_kind_value, V_s_SUBSCRIPTION_kind_value, AD_s_DigitOnes, ZD_s_DigitOnes, GD_s_DigitOnes_3, GD_s_DigitOnes_50, GD_s_DigitOnes_64, AD_s_DigitTens, ZD_s_DigitTens, GD_s_DigitTens_50, GD_s_DigitTens_64⟩ i0 s.heap ext_rfl tables_1 p e ha hc hk s m _ below hf ((Spec.applies_iff_loose hf).mp happ).1 ⟨rfl, State.Warmed39.refl s, rfl, hCH⟩ trivial
  refine ⟨n, _, h1, h2, h3, hpost _ _ _ _ _ _ ⟨Cond.after_iff.mpr rfl, Cond.after_iff.mpr (eq_i res_at (Term.int_eval (1)) rfl), trivial⟩ ⟨hq.1, hq.2.1, hq.2.2.1, (hq.2.2.2.sift fun y hy => Or.inr (N y hy)).mono (by decide) (by decide)⟩⟩
theorem main_1_1 : Claimed_1_1 := comes_1 fun _ _ _ _ _ _ h hF => ⟨h.1, hF⟩
theorem main_1_2 : Claimed_1_2 := comes_1 fun _ _ _ _ _ _ h hF => ⟨h.2.1, hF⟩
end Jvm.Pilot.@@N@@
namespace Jvm.Pilot.@@N@@
open Jvm Jvm.ClassFile Sem Op Lib Jvm.Free Jvm.Stand Jvm.Pilot.@@N@@.Jvm.D
/-! MADE BY PROGRAM (witnessworld.py) out of the Statement's table words and the real class files: 26 classes; the members and pool entries that the words name. The judged class is class 1, her method 1. -/
namespace start1
open Jvm.ClassFile
def u (s : String) : CpInfo := .utf8 (stringToUtf16 s)
/-- a pool by its gaps: so many unusable entries, then the entry; so many at the end -/
def gap : Nat → List CpInfo → List CpInfo
  | 0, r => r
  | n + 1, r => .unusable :: gap n r
def poolList (es : List (Nat × CpInfo)) (last : Nat) : List CpInfo := es.foldr (fun e r => gap e.1 (e.2 :: r)) (gap last [])
def pool (es : List (Nat × CpInfo)) (last : Nat) : Array CpInfo := ⟨poolList es last⟩
def fileOf (pool : Array CpInfo) (this : Nat) (attrs : Array Attribute := #[]) (ms : Array MethodInfo := #[]) (fl : Nat := 33) (sup : Nat := 0) (ifs : Array Nat := #[]) (fds : Array FieldInfo := #[]) : ClassFile where
  minorVersion := 0
  majorVersion := 65
  constantPool := pool
  accessFlags := fl
  thisClass := this
  superClass := sup
  interfaces := ifs
  fields := fds
  methods := ms
  attributes := attrs
def plain (name : String) (sup : Option ClassId) : Class where
  name := name
  kind := .ordinary
  loader := none
  accessFlags := 33
  super := sup
  interfaces := #[]
  cf := none
  fields := #[]
  methods := #[]
  instanceTypes := #[]
  staticTypes := #[]
  resolved := #[]
  callSites := []
  init := .initialized
  statics := none
  mirror := none

def pool0 : Array CpInfo := pool [(5, u "<init>"), (0, u "()V"), (1, .class_ 10), (1, u "java/lang/Object")] 113

def k0c0 : Code := { maxStack := 0, maxLocals := 1, code := object_method_1_code, exceptionTable := #[], attributes := #[] }
def k0m0 : Method := { name := "<init>", desc := "()V", sig := { parameters := [], returnType := none }, accessFlags := 1, code := some k0c0 }
/-- java/lang/Object -/
def k0 : Class := { plain "java/lang/Object" none with
  accessFlags := 33
  interfaces := #[]
  cf := some (fileOf pool0 8 #[] #[{ accessFlags := 1, nameIndex := 5, descriptorIndex := 6, attributes := #[] }] 33 0 #[] #[])
  fields := #[]
  methods := #[k0m0]
  instanceTypes := #[]
  staticTypes := #[]
  resolved := Array.replicate 124 none
  statics := none }

def pool1 : Array CpInfo := pool [(2, .class_ 4), (1, u "java/lang/Object"), (0, u "<init>"), (0, u "()V"), (0, .fieldref 8 9), (0, .class_ 10), (0, .nameAndType 11 12), (0, u "com/example/patient_courier/patientcourier/NameRule"), (0, u "TOPIC"), (0, u "Lcom/example/patient_courier/patientcourier/NameRule;"), (0, .string 14), (0, u "A topic name is 3 to 50 ASCII letters, digits or hyphens."), (0, .fieldref 8 16), (0, .nameAndType 17 12), (0, u "SUBSCRIPTION"), (0, .string 19), (0, u "A subscription name is 3 to 64 ASCII letters, digits or hyphens."), (0, .methodref 8 21), (0, .nameAndType 22 23), (0, u "requirement"), (0, u "()Ljava/lang/String;"), (0, .methodref 25 26), (0, .class_ 27), (0, .nameAndType 28 29), (0, u "java/lang/String"), (0, u "length"), (0, u "()I"), (0, .methodref 25 31), (0, .nameAndType 32 33), (0, u "equals"), (0, u "(Ljava/lang/Object;)Z"), (0, .class_ 35), (0, u "com/example/patient_courier/patientcourier/NameRuleRequirementPinLaw"), (2, u "law"), (0, u "(I)Z")] 3

def k1m0 : Method := { name := "<init>", desc := "()V", sig := { parameters := [], returnType := none }, accessFlags := 1, code := none }
def k1c1 : Code := { maxStack := 2, maxLocals := 4, code := code, exceptionTable := #[], attributes := #[] }
def k1m1 : Method := { name := "law", desc := "(I)Z", sig := { parameters := [.int], returnType := some .boolean }, accessFlags := 9, code := some k1c1 }
/-- com/example/patient_courier/patientcourier/NameRuleRequirementPinLaw -/
def k1 : Class := { plain "com/example/patient_courier/patientcourier/NameRuleRequirementPinLaw" (some 0) with
  accessFlags := 49
  interfaces := #[]
  cf := some (fileOf pool1 34 #[] #[{ accessFlags := 1, nameIndex := 5, descriptorIndex := 6, attributes := #[] }, { accessFlags := 9, nameIndex := 38, descriptorIndex := 39, attributes := #[] }] 49 2 #[] #[])
  fields := #[]
  methods := #[k1m0, k1m1]
  instanceTypes := #[]
  staticTypes := #[]
  resolved := Array.replicate 43 none
  statics := none }

def pool2 : Array CpInfo := pool [(1, .class_ 2), (0, u "java/lang/constant/Constable"), (0, .class_ 4), (0, u "java/lang/Object")] 6

/-- java/lang/constant/Constable -/
def k2 : Class := { plain "java/lang/constant/Constable" (some 0) with
  accessFlags := 1537
  interfaces := #[]
  cf := some (fileOf pool2 1 #[] #[] 1537 3 #[] #[])
  fields := #[]
  methods := #[]
  instanceTypes := #[]
  staticTypes := #[]
  resolved := Array.replicate 11 none
  statics := none }

def pool3 : Array CpInfo := pool [(1, .class_ 2), (0, u "java/lang/Comparable"), (0, .class_ 4), (0, u "java/lang/Object")] 7

/-- java/lang/Comparable -/
def k3 : Class := { plain "java/lang/Comparable" (some 0) with
  accessFlags := 1537
  interfaces := #[]
  cf := some (fileOf pool3 1 #[] #[] 1537 3 #[] #[])
  fields := #[]
  methods := #[]
  instanceTypes := #[]
  staticTypes := #[]
  resolved := Array.replicate 12 none
  statics := none }

def pool4 : Array CpInfo := pool [(1, .class_ 2), (0, u "java/io/Serializable"), (0, .class_ 4), (0, u "java/lang/Object")] 2

/-- java/io/Serializable -/
def k4 : Class := { plain "java/io/Serializable" (some 0) with
  accessFlags := 1537
  interfaces := #[]
  cf := some (fileOf pool4 1 #[] #[] 1537 3 #[] #[])
  fields := #[]
  methods := #[]
  instanceTypes := #[]
  staticTypes := #[]
  resolved := Array.replicate 7 none
  statics := none }

def pool5 : Array CpInfo := pool [(2, .class_ 4), (1, u "java/lang/Enum"), (0, u "name"), (0, u "Ljava/lang/String;"), (2, u "ordinal"), (0, u "I"), (1, .class_ 14), (1, u "java/lang/Object"), (4, u "hash"), (86, .class_ 108), (1, u "java/lang/Enum$EnumDesc"), (2, .class_ 112), (0, u "java/lang/constant/Constable"), (0, .class_ 114), (0, u "java/lang/Comparable"), (0, .class_ 116), (0, u "java/io/Serializable")] 87

/-- java/lang/Enum -/
def k5 : Class := { plain "java/lang/Enum" (some 0) with
  accessFlags := 1057
  interfaces := #[2, 3, 4]
  cf := some (fileOf pool5 2 #[.nestMembers #[106]] #[] 1057 12 #[111, 113, 115] #[{ accessFlags := 18, nameIndex := 5, descriptorIndex := 6, attributes := #[] }, { accessFlags := 18, nameIndex := 9, descriptorIndex := 10, attributes := #[] }, { accessFlags := 2, nameIndex := 19, descriptorIndex := 10, attributes := #[] }])
  fields := #[{ name := "name", type := (.object "java/lang/String"), accessFlags := 18, slot := 0, constantValue := 0 }, { name := "ordinal", type := .int, accessFlags := 18, slot := 1, constantValue := 0 }, { name := "hash", type := .int, accessFlags := 2, slot := 2, constantValue := 0 }]
  methods := #[]
  instanceTypes := #[(.object "java/lang/String"), .int, .int]
  staticTypes := #[]
  resolved := Array.replicate 204 none
  statics := none }

def pool6 : Array CpInfo := pool [(1, .class_ 2), (0, u "com/example/patient_courier/patientcourier/NameRule"), (2, u "TOPIC"), (0, u "Lcom/example/patient_courier/patientcourier/NameRule;"), (2, u "SUBSCRIPTION"), (2, u "$VALUES"), (0, u "[Lcom/example/patient_courier/patientcourier/NameRule;"), (6, .class_ 22), (1, u "java/lang/Enum"), (4, u "<init>"), (1, .fieldref 1 30), (0, .nameAndType 31 32), (0, u "kind"), (0, u "Ljava/lang/String;"), (0, .fieldref 1 34), (0, .nameAndType 35 36), (0, u "minLength"), (0, u "I"), (0, .fieldref 1 38), (0, .nameAndType 39 36), (0, u "maxLength"), (14, .class_ 55), (0, u "java/lang/StringBuilder"), (0, .methodref 54 57), (0, .nameAndType 27 58), (0, u "()V"), (0, .string 60), (0, u "A "), (0, .methodref 54 62), (0, .nameAndType 63 64), (0, u "append"), (0, u "(Ljava/lang/String;)Ljava/lang/StringBuilder;"), (0, .string 66), (0, u " name is "), (0, .methodref 54 68), (0, .nameAndType 63 69), (0, u "(I)Ljava/lang/StringBuilder;"), (0, .string 71), (0, u " to "), (0, .string 73), (0, u " ASCII letters, digits or hyphens."), (0, .methodref 54 75), (0, .nameAndType 76 77), (0, u "toString"), (0, u "()Ljava/lang/String;"), (23, u "requirement")] 4

def k6c0 : Code := { maxStack := 2, maxLocals := 1, code := prog_10_method_5_code, exceptionTable := #[], attributes := #[] }
def k6m0 : Method := { name := "requirement", desc := "()Ljava/lang/String;", sig := { parameters := [], returnType := some (.object "java/lang/String") }, accessFlags := 1, code := some k6c0 }
/-- com/example/patient_courier/patientcourier/NameRule -/
def k6 : Class := { plain "com/example/patient_courier/patientcourier/NameRule" (some 5) with
  accessFlags := 16433
  interfaces := #[]
  cf := some (fileOf pool6 1 #[] #[{ accessFlags := 1, nameIndex := 101, descriptorIndex := 77, attributes := #[] }] 16433 20 #[] #[{ accessFlags := 16409, nameIndex := 5, descriptorIndex := 6, attributes := #[] }, { accessFlags := 16409, nameIndex := 9, descriptorIndex := 6, attributes := #[] }, { accessFlags := 18, nameIndex := 31, descriptorIndex := 32, attributes := #[] }, { accessFlags := 18, nameIndex := 35, descriptorIndex := 36, attributes := #[] }, { accessFlags := 18, nameIndex := 39, descriptorIndex := 36, attributes := #[] }, { accessFlags := 4122, nameIndex := 12, descriptorIndex := 13, attributes := #[] }])
  fields := #[{ name := "TOPIC", type := (.object "com/example/patient_courier/patientcourier/NameRule"), accessFlags := 16409, slot := 0, constantValue := 0 }, { name := "SUBSCRIPTION", type := (.object "com/example/patient_courier/patientcourier/NameRule"), accessFlags := 16409, slot := 1, constantValue := 0 }, { name := "kind", type := (.object "java/lang/String"), accessFlags := 18, slot := 3, constantValue := 0 }, { name := "minLength", type := .int, accessFlags := 18, slot := 4, constantValue := 0 }, { name := "maxLength", type := .int, accessFlags := 18, slot := 5, constantValue := 0 }, { name := "$VALUES", type := (.array (.object "com/example/patient_courier/patientcourier/NameRule")), accessFlags := 4122, slot := 2, constantValue := 0 }]
  methods := #[k6m0]
  instanceTypes := #[(.object "java/lang/String"), .int, .int, (.object "java/lang/String"), .int, .int]
  staticTypes := #[(.object "com/example/patient_courier/patientcourier/NameRule"), (.object "com/example/patient_courier/patientcourier/NameRule"), (.array (.object "com/example/patient_courier/patientcourier/NameRule"))]
  resolved := Array.replicate 106 none
  statics := some 0 }

def pool7 : Array CpInfo := pool [(2, .class_ 4), (1, u "java/lang/CharSequence"), (42, .class_ 48), (0, u "java/lang/CharSequence$1CodePointIterator"), (10, .class_ 60), (0, u "java/lang/CharSequence$1CharIterator"), (5, .class_ 67), (0, u "java/lang/Object")] 63

/-- java/lang/CharSequence -/
def k7 : Class := { plain "java/lang/CharSequence" (some 0) with
  accessFlags := 1537
  interfaces := #[]
  cf := some (fileOf pool7 2 #[.nestMembers #[47, 59]] #[] 1537 66 #[] #[])
  fields := #[]
  methods := #[]
  instanceTypes := #[]
  staticTypes := #[]
  resolved := Array.replicate 131 none
  statics := none }

def pool8 : Array CpInfo := pool [(1, .class_ 2), (0, u "java/lang/constant/ConstantDesc"), (0, .class_ 4), (0, u "java/lang/Object")] 32

/-- java/lang/constant/ConstantDesc -/
def k8 : Class := { plain "java/lang/constant/ConstantDesc" (some 0) with
  accessFlags := 1537
  interfaces := #[]
  cf := some (fileOf pool8 1 #[] #[] 1537 3 #[] #[])
  fields := #[]
  methods := #[]
  instanceTypes := #[]
  staticTypes := #[]
  resolved := Array.replicate 37 none
  statics := none }

def pool9 : Array CpInfo := pool [(1, .methodref 2 3), (0, .class_ 4), (0, .nameAndType 5 6), (0, u "java/lang/Object"), (0, u "<init>"), (0, u "()V"), (2, .fieldref 10 11), (0, .class_ 12), (0, .nameAndType 13 14), (0, u "java/lang/String"), (0, u "value"), (0, u "[B"), (0, .fieldref 10 16), (0, .nameAndType 17 18), (0, u "coder"), (0, u "B"), (2, u "hash"), (0, u "I"), (2, u "hashIsZero"), (0, u "Z"), (11, .fieldref 10 39), (0, .nameAndType 40 26), (0, u "COMPACT_STRINGS"), (13, .methodref 55 56), (0, .class_ 57), (0, .nameAndType 58 59), (0, u "java/util/Arrays"), (0, u "copyOfRange"), (0, u "([BII)[B"), (47, .class_ 109), (1, u "java/lang/StringLatin1"), (32, u "()Z"), (50, .class_ 195), (1, u "java/lang/System"), (16, .methodref 193 213), (0, .nameAndType 214 215), (0, u "arraycopy"), (0, u "(Ljava/lang/Object;ILjava/lang/Object;II)V"), (118, u "()I"), (0, .methodref 10 336), (0, .nameAndType 17 337), (0, u "()B"), (2, u "()[B"), (148, .methodref 10 490), (0, .nameAndType 5 491), (0, u "(Ljava/lang/AbstractStringBuilder;Ljava/lang/Void;)V"), (1, .nameAndType 494 142), (0, u "isLatin1"), (11, .nameAndType 507 334), (0, u "length"), (24, u "getBytes"), (8, .methodref 107 542), (0, .nameAndType 543 544), (0, u "equals"), (0, u "([B[B)Z"), (4, .methodref 550 506), (0, .class_ 551), (0, u "java/lang/AbstractStringBuilder"), (0, .methodref 550 553), (0, .nameAndType 554 340), (0, u "getValue"), (18, u "(Ljava/lang/Object;)Z"), (1, .class_ 576), (0, u "java/lang/CharSequence"), (22, u "CASE_INSENSITIVE_ORDER"), (0, u "Ljava/util/Comparator;"), (220, u "([BIB)V"), (225, .methodref 550 493), (53, u "serialPersistentFields"), (0, u "[Ljava/io/ObjectStreamField;"), (0, .class_ 1104), (0, u "java/lang/String$CaseInsensitiveComparator"), (1, .class_ 1107), (0, u "java/io/Serializable"), (0, .class_ 1109), (0, u "java/lang/Comparable"), (0, .class_ 1111), (0, u "java/lang/constant/Constable"), (0, .class_ 1113), (0, u "java/lang/constant/ConstantDesc"), (2, u "serialVersionUID"), (0, u "J"), (3, u "REPL"), (0, u "C"), (2, u "LATIN1"), (1, u "UTF16"), (105, u "(Ljava/lang/StringBuilder;)V")] 217

def k9m0 : Method := { name := "<init>", desc := "()V", sig := { parameters := [], returnType := none }, accessFlags := 1, code := none }
def k9c1 : Code := { maxStack := 3, maxLocals := 2, code := jdk_42_method_53_code, exceptionTable := #[], attributes := #[] }
def k9m1 : Method := { name := "<init>", desc := "(Ljava/lang/StringBuilder;)V", sig := { parameters := [(.object "java/lang/StringBuilder")], returnType := none }, accessFlags := 1, code := some k9c1 }
def k9c2 : Code := { maxStack := 2, maxLocals := 1, code := jdk_42_method_54_code, exceptionTable := #[], attributes := #[] }
def k9m2 : Method := { name := "length", desc := "()I", sig := { parameters := [], returnType := some .int }, accessFlags := 1, code := some k9c2 }
def k9c3 : Code := { maxStack := 2, maxLocals := 3, code := jdk_42_method_66_code, exceptionTable := #[], attributes := #[] }
def k9m3 : Method := { name := "equals", desc := "(Ljava/lang/Object;)Z", sig := { parameters := [(.object "java/lang/Object")], returnType := some .boolean }, accessFlags := 1, code := some k9c3 }
def k9c4 : Code := { maxStack := 5, maxLocals := 4, code := jdk_42_method_147_code, exceptionTable := #[], attributes := #[] }
def k9m4 : Method := { name := "getBytes", desc := "([BIB)V", sig := { parameters := [(.array .byte), .int, .byte], returnType := none }, accessFlags := 0, code := some k9c4 }
def k9c5 : Code := { maxStack := 5, maxLocals := 5, code := jdk_42_method_150_code, exceptionTable := #[], attributes := #[] }
def k9m5 : Method := { name := "<init>", desc := "(Ljava/lang/AbstractStringBuilder;Ljava/lang/Void;)V", sig := { parameters := [(.object "java/lang/AbstractStringBuilder"), (.object "java/lang/Void")], returnType := none }, accessFlags := 0, code := some k9c5 }
def k9c6 : Code := { maxStack := 1, maxLocals := 1, code := jdk_42_method_152_code, exceptionTable := #[], attributes := #[] }
def k9m6 : Method := { name := "coder", desc := "()B", sig := { parameters := [], returnType := some .byte }, accessFlags := 0, code := some k9c6 }
/-- java/lang/String -/
def k9 : Class := { plain "java/lang/String" (some 0) with
  accessFlags := 49
  interfaces := #[4, 3, 7, 2, 8]
  cf := some (fileOf pool9 10 #[.nestMembers #[1103]] #[{ accessFlags := 1, nameIndex := 5, descriptorIndex := 6, attributes := #[] }, { accessFlags := 1, nameIndex := 5, descriptorIndex := 1233, attributes := #[] }, { accessFlags := 1, nameIndex := 507, descriptorIndex := 334, attributes := #[] }, { accessFlags := 1, nameIndex := 543, descriptorIndex := 573, attributes := #[] }, { accessFlags := 0, nameIndex := 532, descriptorIndex := 821, attributes := #[] }, { accessFlags := 0, nameIndex := 5, descriptorIndex := 491, attributes := #[] }, { accessFlags := 0, nameIndex := 17, descriptorIndex := 337, attributes := #[] }] 49 2 #[1106, 1108, 575, 1110, 1112] #[{ accessFlags := 18, nameIndex := 13, descriptorIndex := 14, attributes := #[] }, { accessFlags := 18, nameIndex := 17, descriptorIndex := 18, attributes := #[] }, { accessFlags := 2, nameIndex := 21, descriptorIndex := 22, attributes := #[] }, { accessFlags := 2, nameIndex := 25, descriptorIndex := 26, attributes := #[] }, { accessFlags := 26, nameIndex := 1116, descriptorIndex := 1117, attributes := #[] }, { accessFlags := 24, nameIndex := 40, descriptorIndex := 26, attributes := #[] }, { accessFlags := 26, nameIndex := 1101, descriptorIndex := 1102, attributes := #[] }, { accessFlags := 26, nameIndex := 1121, descriptorIndex := 1122, attributes := #[] }, { accessFlags := 25, nameIndex := 599, descriptorIndex := 600, attributes := #[] }, { accessFlags := 24, nameIndex := 1125, descriptorIndex := 18, attributes := #[] }, { accessFlags := 24, nameIndex := 1127, descriptorIndex := 18, attributes := #[] }])
  fields := #[{ name := "value", type := (.array .byte), accessFlags := 18, slot := 0, constantValue := 0 }, { name := "coder", type := .byte, accessFlags := 18, slot := 1, constantValue := 0 }, { name := "hash", type := .int, accessFlags := 2, slot := 2, constantValue := 0 }, { name := "hashIsZero", type := .boolean, accessFlags := 2, slot := 3, constantValue := 0 }, { name := "serialVersionUID", type := .long, accessFlags := 26, slot := 0, constantValue := 0 }, { name := "COMPACT_STRINGS", type := .boolean, accessFlags := 24, slot := 1, constantValue := 0 }, { name := "serialPersistentFields", type := (.array (.object "java/io/ObjectStreamField")), accessFlags := 26, slot := 2, constantValue := 0 }, { name := "REPL", type := .char, accessFlags := 26, slot := 3, constantValue := 0 }, { name := "CASE_INSENSITIVE_ORDER", type := (.object "java/util/Comparator"), accessFlags := 25, slot := 4, constantValue := 0 }, { name := "LATIN1", type := .byte, accessFlags := 24, slot := 5, constantValue := 0 }, { name := "UTF16", type := .byte, accessFlags := 24, slot := 6, constantValue := 0 }]
  methods := #[k9m0, k9m1, k9m2, k9m3, k9m4, k9m5, k9m6]
  instanceTypes := #[(.array .byte), .byte, .int, .boolean]
  staticTypes := #[.long, .boolean, (.array (.object "java/io/ObjectStreamField")), .char, (.object "java/util/Comparator"), .byte, .byte]
  resolved := Array.replicate 1451 none
  statics := some 1 }

def pool10 : Array CpInfo := pool [(1, .class_ 2), (0, u "java/lang/Appendable"), (0, .class_ 4), (0, u "java/lang/Object")] 9

/-- java/lang/Appendable -/
def k10 : Class := { plain "java/lang/Appendable" (some 0) with
  accessFlags := 1537
  interfaces := #[]
  cf := some (fileOf pool10 1 #[] #[] 1537 3 #[] #[])
  fields := #[]
  methods := #[]
  instanceTypes := #[]
  staticTypes := #[]
  resolved := Array.replicate 14 none
  statics := none }

def pool11 : Array CpInfo := pool [(1, .class_ 2), (0, u "java/lang/String"), (0, .methodref 4 5), (0, .class_ 6), (0, .nameAndType 7 8), (0, u "java/lang/Object"), (0, u "<init>"), (0, u "()V"), (1, .class_ 12), (1, u "java/lang/AbstractStringBuilder"), (0, u "EMPTYVALUE"), (0, u "[B"), (0, .fieldref 10 16), (0, .nameAndType 17 14), (0, u "value"), (0, .fieldref 1 19), (0, .nameAndType 20 21), (0, u "COMPACT_STRINGS"), (0, u "Z"), (0, .fieldref 10 23), (0, .nameAndType 24 25), (0, u "coder"), (0, u "B"), (6, .methodref 1 33), (0, .nameAndType 34 35), (0, u "length"), (0, u "()I"), (0, .class_ 37), (0, u "java/lang/Integer"), (1, .integer 2147483647), (0, .methodref 1 41), (0, .nameAndType 24 42), (0, u "()B"), (2, u "append"), (0, u "(Ljava/lang/String;)Ljava/lang/AbstractStringBuilder;"), (1, .class_ 49), (0, u "java/lang/CharSequence"), (19, u "(Ljava/lang/String;)V"), (5, u "maybeLatin1"), (3, .fieldref 10 80), (0, .nameAndType 81 82), (0, u "count"), (0, u "I"), (0, .methodref 10 84), (0, .nameAndType 85 86), (0, u "isLatin1"), (0, u "()Z"), (13, .methodref 10 101), (0, .nameAndType 102 103), (0, u "ensureCapacityInternal"), (0, u "(I)V"), (0, .methodref 10 105), (0, .nameAndType 106 107), (0, u "newCapacity"), (0, u "(I)I"), (0, .methodref 109 110), (0, .class_ 111), (0, .nameAndType 112 113), (0, u "java/util/Arrays"), (0, u "copyOf"), (0, u "([BI)[B"), (0, .methodref 115 116), (0, .class_ 117), (0, .nameAndType 118 119), (0, u "jdk/internal/util/ArraysSupport"), (0, u "newLength"), (0, u "(III)I"), (68, u "getChars"), (19, .methodref 10 209), (0, .nameAndType 210 211), (0, u "putStringAt"), (0, u "(ILjava/lang/String;)V"), (5, u "inflateIfNeededFor"), (2, .nameAndType 221 222), (0, u "getBytes"), (0, u "([BIB)V"), (22, .methodref 36 246), (0, .nameAndType 247 107), (0, u "stringSize"), (0, .methodref 36 249), (0, .nameAndType 188 250), (0, u "(II[B)I"), (146, .methodref 10 398), (0, .nameAndType 217 69), (0, .methodref 1 220), (3, u "()[B"), (40, .class_ 445), (0, u "java/lang/Appendable"), (65, u "(I)Ljava/lang/AbstractStringBuilder;"), (40, u "getValue")] 56

def k11m0 : Method := { name := "<init>", desc := "()V", sig := { parameters := [], returnType := none }, accessFlags := 0, code := none }
def k11c1 : Code := { maxStack := 2, maxLocals := 2, code := jdk_68_method_2_code, exceptionTable := #[], attributes := #[] }
def k11m1 : Method := { name := "<init>", desc := "(I)V", sig := { parameters := [.int], returnType := none }, accessFlags := 0, code := some k11c1 }
def k11c2 : Code := { maxStack := 1, maxLocals := 1, code := jdk_68_method_6_code, exceptionTable := #[], attributes := #[] }
def k11m2 : Method := { name := "length", desc := "()I", sig := { parameters := [], returnType := some .int }, accessFlags := 1, code := some k11c2 }
def k11c3 : Code := { maxStack := 4, maxLocals := 3, code := jdk_68_method_9_code, exceptionTable := #[], attributes := #[] }
def k11m3 : Method := { name := "ensureCapacityInternal", desc := "(I)V", sig := { parameters := [.int], returnType := none }, accessFlags := 2, code := some k11c3 }
def k11c4 : Code := { maxStack := 5, maxLocals := 6, code := jdk_68_method_10_code, exceptionTable := #[], attributes := #[] }
def k11m4 : Method := { name := "newCapacity", desc := "(I)I", sig := { parameters := [.int], returnType := some .int }, accessFlags := 2, code := some k11c4 }
def k11c5 : Code := { maxStack := 3, maxLocals := 3, code := jdk_68_method_22_code, exceptionTable := #[], attributes := #[] }
def k11m5 : Method := { name := "append", desc := "(Ljava/lang/String;)Ljava/lang/AbstractStringBuilder;", sig := { parameters := [(.object "java/lang/String")], returnType := some (.object "java/lang/AbstractStringBuilder") }, accessFlags := 1, code := some k11c5 }
def k11c6 : Code := { maxStack := 4, maxLocals := 4, code := jdk_68_method_32_code, exceptionTable := #[], attributes := #[] }
def k11m6 : Method := { name := "append", desc := "(I)Ljava/lang/AbstractStringBuilder;", sig := { parameters := [.int], returnType := some (.object "java/lang/AbstractStringBuilder") }, accessFlags := 1, code := some k11c6 }
def k11c7 : Code := { maxStack := 1, maxLocals := 1, code := jdk_68_method_64_code, exceptionTable := #[], attributes := #[] }
def k11m7 : Method := { name := "getValue", desc := "()[B", sig := { parameters := [], returnType := some (.array .byte) }, accessFlags := 16, code := some k11c7 }
def k11c8 : Code := { maxStack := 1, maxLocals := 1, code := jdk_68_method_68_code, exceptionTable := #[], attributes := #[] }
def k11m8 : Method := { name := "isLatin1", desc := "()Z", sig := { parameters := [], returnType := some .boolean }, accessFlags := 16, code := some k11c8 }
def k11c9 : Code := { maxStack := 2, maxLocals := 2, code := jdk_68_method_71_code, exceptionTable := #[], attributes := #[] }
def k11m9 : Method := { name := "inflateIfNeededFor", desc := "(Ljava/lang/String;)V", sig := { parameters := [(.object "java/lang/String")], returnType := none }, accessFlags := 2, code := some k11c9 }
def k11c10 : Code := { maxStack := 4, maxLocals := 3, code := jdk_68_method_73_code, exceptionTable := #[], attributes := #[] }
def k11m10 : Method := { name := "putStringAt", desc := "(ILjava/lang/String;)V", sig := { parameters := [.int, (.object "java/lang/String")], returnType := none }, accessFlags := 2, code := some k11c10 }
/-- java/lang/AbstractStringBuilder -/
def k11 : Class := { plain "java/lang/AbstractStringBuilder" (some 0) with
  accessFlags := 1056
  interfaces := #[10, 7]
  cf := some (fileOf pool11 10 #[] #[{ accessFlags := 0, nameIndex := 7, descriptorIndex := 8, attributes := #[] }, { accessFlags := 0, nameIndex := 7, descriptorIndex := 103, attributes := #[] }, { accessFlags := 1, nameIndex := 34, descriptorIndex := 35, attributes := #[] }, { accessFlags := 2, nameIndex := 102, descriptorIndex := 103, attributes := #[] }, { accessFlags := 2, nameIndex := 106, descriptorIndex := 107, attributes := #[] }, { accessFlags := 1, nameIndex := 45, descriptorIndex := 46, attributes := #[] }, { accessFlags := 1, nameIndex := 45, descriptorIndex := 511, attributes := #[] }, { accessFlags := 16, nameIndex := 552, descriptorIndex := 403, attributes := #[] }, { accessFlags := 16, nameIndex := 85, descriptorIndex := 86, attributes := #[] }, { accessFlags := 2, nameIndex := 217, descriptorIndex := 69, attributes := #[] }, { accessFlags := 2, nameIndex := 210, descriptorIndex := 211, attributes := #[] }] 1056 4 #[444, 48] #[{ accessFlags := 0, nameIndex := 17, descriptorIndex := 14, attributes := #[] }, { accessFlags := 0, nameIndex := 24, descriptorIndex := 25, attributes := #[] }, { accessFlags := 0, nameIndex := 75, descriptorIndex := 21, attributes := #[] }, { accessFlags := 0, nameIndex := 81, descriptorIndex := 82, attributes := #[] }, { accessFlags := 26, nameIndex := 13, descriptorIndex := 14, attributes := #[] }])
  fields := #[{ name := "value", type := (.array .byte), accessFlags := 0, slot := 0, constantValue := 0 }, { name := "coder", type := .byte, accessFlags := 0, slot := 1, constantValue := 0 }, { name := "maybeLatin1", type := .boolean, accessFlags := 0, slot := 2, constantValue := 0 }, { name := "count", type := .int, accessFlags := 0, slot := 3, constantValue := 0 }, { name := "EMPTYVALUE", type := (.array .byte), accessFlags := 26, slot := 0, constantValue := 0 }]
  methods := #[k11m0, k11m1, k11m2, k11m3, k11m4, k11m5, k11m6, k11m7, k11m8, k11m9, k11m10]
  instanceTypes := #[(.array .byte), .byte, .boolean, .int]
  staticTypes := #[(.array .byte)]
  resolved := Array.replicate 609 none
  statics := none }

def pool12 : Array CpInfo := pool [(1, .methodref 2 3), (0, .class_ 4), (0, .nameAndType 5 6), (0, u "java/lang/AbstractStringBuilder"), (0, u "<init>"), (0, u "(I)V"), (11, .class_ 20), (1, u "java/lang/String"), (3, .class_ 26), (1, u "java/lang/StringBuilder"), (0, u "append"), (0, u "(Ljava/lang/String;)Ljava/lang/StringBuilder;"), (0, .methodref 2 30), (0, .nameAndType 27 31), (0, u "(Ljava/lang/String;)Ljava/lang/AbstractStringBuilder;"), (21, .methodref 2 54), (0, .nameAndType 27 55), (0, u "(I)Ljava/lang/AbstractStringBuilder;"), (81, .methodref 18 138), (0, .nameAndType 5 139), (0, u "(Ljava/lang/StringBuilder;)V"), (5, u "()V"), (10, u "()I"), (111, u "(I)Ljava/lang/StringBuilder;"), (74, .methodref 2 344), (0, .nameAndType 345 156), (0, u "length"), (3, .class_ 350), (0, u "java/lang/Appendable"), (0, .class_ 352), (0, u "java/io/Serializable"), (0, .class_ 354), (0, u "java/lang/Comparable"), (0, .class_ 356), (0, u "java/lang/CharSequence"), (0, u "serialVersionUID"), (0, u "J"), (40, u "toString"), (0, u "()Ljava/lang/String;")] 21

def k12c0 : Code := { maxStack := 2, maxLocals := 1, code := jdk_67_method_1_code, exceptionTable := #[], attributes := #[] }
def k12m0 : Method := { name := "<init>", desc := "()V", sig := { parameters := [], returnType := none }, accessFlags := 1, code := some k12c0 }
def k12c1 : Code := { maxStack := 2, maxLocals := 2, code := jdk_67_method_7_code, exceptionTable := #[], attributes := #[] }
def k12m1 : Method := { name := "append", desc := "(Ljava/lang/String;)Ljava/lang/StringBuilder;", sig := { parameters := [(.object "java/lang/String")], returnType := some (.object "java/lang/StringBuilder") }, accessFlags := 1, code := some k12c1 }
def k12c2 : Code := { maxStack := 2, maxLocals := 2, code := jdk_67_method_15_code, exceptionTable := #[], attributes := #[] }
def k12m2 : Method := { name := "append", desc := "(I)Ljava/lang/StringBuilder;", sig := { parameters := [.int], returnType := some (.object "java/lang/StringBuilder") }, accessFlags := 1, code := some k12c2 }
def k12c3 : Code := { maxStack := 3, maxLocals := 1, code := jdk_67_method_42_code, exceptionTable := #[], attributes := #[] }
def k12m3 : Method := { name := "toString", desc := "()Ljava/lang/String;", sig := { parameters := [], returnType := some (.object "java/lang/String") }, accessFlags := 1, code := some k12c3 }
def k12c4 : Code := { maxStack := 1, maxLocals := 1, code := jdk_67_method_93_code, exceptionTable := #[], attributes := #[] }
def k12m4 : Method := { name := "length", desc := "()I", sig := { parameters := [], returnType := some .int }, accessFlags := 4161, code := some k12c4 }
/-- java/lang/StringBuilder -/
def k12 : Class := { plain "java/lang/StringBuilder" (some 11) with
  accessFlags := 49
  interfaces := #[10, 4, 3, 7]
  cf := some (fileOf pool12 24 #[] #[{ accessFlags := 1, nameIndex := 5, descriptorIndex := 145, attributes := #[] }, { accessFlags := 1, nameIndex := 27, descriptorIndex := 28, attributes := #[] }, { accessFlags := 1, nameIndex := 27, descriptorIndex := 268, attributes := #[] }, { accessFlags := 1, nameIndex := 399, descriptorIndex := 400, attributes := #[] }, { accessFlags := 4161, nameIndex := 345, descriptorIndex := 156, attributes := #[] }] 49 2 #[349, 351, 353, 355] #[{ accessFlags := 24, nameIndex := 357, descriptorIndex := 358, attributes := #[] }])
  fields := #[{ name := "serialVersionUID", type := .long, accessFlags := 24, slot := 0, constantValue := 0 }]
  methods := #[k12m0, k12m1, k12m2, k12m3, k12m4]
  instanceTypes := #[(.array .byte), .byte, .boolean, .int]
  staticTypes := #[.long]
  resolved := Array.replicate 422 none
  statics := none }

def pool13 : Array CpInfo := pool [(2, .class_ 4), (1, u "java/lang/Object"), (0, u "<init>"), (0, u "()V"), (1, .class_ 10), (1, u "java/lang/System"), (0, u "allowSecurityManager"), (0, u "I"), (16, u "cons"), (0, u "Ljava/io/Console;"), (77, .class_ 110), (1, u "java/lang/System$CallersHolder"), (43, u "initialErrStream"), (0, u "Ljava/io/PrintStream;"), (19, u "security"), (0, u "Ljava/lang/SecurityManager;"), (31, .class_ 209), (0, u "java/lang/System$1"), (7, u "props"), (0, u "Ljava/util/Properties;"), (2, u "lineSeparator"), (0, u "Ljava/lang/String;"), (96, .class_ 321), (1, u "java/lang/System$LoggerFinder"), (5, .class_ 328), (0, u "java/lang/System$Logger"), (67, u "err"), (2, u "out"), (91, u "notSupportedJnuEncoding"), (15, u "in"), (17, u "initialIn"), (0, u "Ljava/io/InputStream;"), (35, u "bootLayer"), (0, u "Ljava/lang/ModuleLayer;"), (99, .class_ 664), (0, u "java/lang/System$2"), (9, u "NEVER"), (2, u "MAYBE"), (49, u "arraycopy"), (0, u "(Ljava/lang/Object;ILjava/lang/Object;II)V"), (72, .class_ 802), (0, u "java/lang/System$Logger$Level")] 31

def k13m0 : Method := { name := "<init>", desc := "()V", sig := { parameters := [], returnType := none }, accessFlags := 2, code := none }
def k13m1 : Method := { name := "arraycopy", desc := "(Ljava/lang/Object;ILjava/lang/Object;II)V", sig := { parameters := [(.object "java/lang/Object"), .int, (.object "java/lang/Object"), .int, .int], returnType := none }, accessFlags := 265, code := none }
/-- java/lang/System -/
def k13 : Class := { plain "java/lang/System" (some 0) with
  accessFlags := 49
  interfaces := #[]
  cf := some (fileOf pool13 8 #[.nestMembers #[319, 327, 801, 108, 663, 208]] #[{ accessFlags := 2, nameIndex := 5, descriptorIndex := 6, attributes := #[] }, { accessFlags := 265, nameIndex := 727, descriptorIndex := 728, attributes := #[] }] 49 2 #[] #[{ accessFlags := 25, nameIndex := 507, descriptorIndex := 526, attributes := #[] }, { accessFlags := 25, nameIndex := 399, descriptorIndex := 155, attributes := #[] }, { accessFlags := 25, nameIndex := 396, descriptorIndex := 155, attributes := #[] }, { accessFlags := 10, nameIndex := 525, descriptorIndex := 526, attributes := #[] }, { accessFlags := 26, nameIndex := 674, descriptorIndex := 12, attributes := #[] }, { accessFlags := 26, nameIndex := 677, descriptorIndex := 12, attributes := #[] }, { accessFlags := 10, nameIndex := 11, descriptorIndex := 12, attributes := #[] }, { accessFlags := 74, nameIndex := 175, descriptorIndex := 176, attributes := #[] }, { accessFlags := 10, nameIndex := 491, descriptorIndex := 222, attributes := #[] }, { accessFlags := 74, nameIndex := 29, descriptorIndex := 30, attributes := #[] }, { accessFlags := 74, nameIndex := 154, descriptorIndex := 155, attributes := #[] }, { accessFlags := 10, nameIndex := 217, descriptorIndex := 218, attributes := #[] }, { accessFlags := 10, nameIndex := 221, descriptorIndex := 222, attributes := #[] }, { accessFlags := 8, nameIndex := 562, descriptorIndex := 563, attributes := #[] }])
  fields := #[{ name := "in", type := (.object "java/io/InputStream"), accessFlags := 25, slot := 0, constantValue := 0 }, { name := "out", type := (.object "java/io/PrintStream"), accessFlags := 25, slot := 1, constantValue := 0 }, { name := "err", type := (.object "java/io/PrintStream"), accessFlags := 25, slot := 2, constantValue := 0 }, { name := "initialIn", type := (.object "java/io/InputStream"), accessFlags := 10, slot := 3, constantValue := 0 }, { name := "NEVER", type := .int, accessFlags := 26, slot := 4, constantValue := 0 }, { name := "MAYBE", type := .int, accessFlags := 26, slot := 5, constantValue := 0 }, { name := "allowSecurityManager", type := .int, accessFlags := 10, slot := 6, constantValue := 0 }, { name := "security", type := (.object "java/lang/SecurityManager"), accessFlags := 74, slot := 7, constantValue := 0 }, { name := "notSupportedJnuEncoding", type := (.object "java/lang/String"), accessFlags := 10, slot := 8, constantValue := 0 }, { name := "cons", type := (.object "java/io/Console"), accessFlags := 74, slot := 9, constantValue := 0 }, { name := "initialErrStream", type := (.object "java/io/PrintStream"), accessFlags := 74, slot := 10, constantValue := 0 }, { name := "props", type := (.object "java/util/Properties"), accessFlags := 10, slot := 11, constantValue := 0 }, { name := "lineSeparator", type := (.object "java/lang/String"), accessFlags := 10, slot := 12, constantValue := 0 }, { name := "bootLayer", type := (.object "java/lang/ModuleLayer"), accessFlags := 8, slot := 13, constantValue := 0 }]
  methods := #[k13m0, k13m1]
  instanceTypes := #[]
  staticTypes := #[(.object "java/io/InputStream"), (.object "java/io/PrintStream"), (.object "java/io/PrintStream"), (.object "java/io/InputStream"), .int, .int, .int, (.object "java/lang/SecurityManager"), (.object "java/lang/String"), (.object "java/io/Console"), (.object "java/io/PrintStream"), (.object "java/util/Properties"), (.object "java/lang/String"), (.object "java/lang/ModuleLayer")]
  resolved := Array.replicate 834 none
  statics := none }

def pool14 : Array CpInfo := pool [(2, .class_ 4), (1, u "java/lang/Object"), (0, u "<init>"), (0, u "()V"), (1, .class_ 10), (1, u "java/lang/Number"), (2, .class_ 14), (0, u "java/io/Serializable"), (0, u "serialVersionUID"), (0, u "J")] 20

def k14m0 : Method := { name := "<init>", desc := "()V", sig := { parameters := [], returnType := none }, accessFlags := 1, code := none }
/-- java/lang/Number -/
def k14 : Class := { plain "java/lang/Number" (some 0) with
  accessFlags := 1057
  interfaces := #[4]
  cf := some (fileOf pool14 8 #[] #[{ accessFlags := 1, nameIndex := 5, descriptorIndex := 6, attributes := #[] }] 1057 2 #[13] #[{ accessFlags := 26, nameIndex := 15, descriptorIndex := 16, attributes := #[] }])
  fields := #[{ name := "serialVersionUID", type := .long, accessFlags := 26, slot := 0, constantValue := 0 }]
  methods := #[k14m0]
  instanceTypes := #[]
  staticTypes := #[.long]
  resolved := Array.replicate 37 none
  statics := none }

def pool15 : Array CpInfo := pool [(1, .class_ 2), (0, u "java/lang/Integer"), (16, u "digits"), (0, u "[C"), (33, u "(I)I"), (19, u "stringSize"), (2, u "getChars"), (0, u "(II[B)I"), (4, .fieldref 1 84), (0, .nameAndType 85 86), (0, u "DigitOnes"), (0, u "[B"), (0, .fieldref 1 88), (0, .nameAndType 89 86), (0, u "DigitTens"), (99, .class_ 190), (0, u "java/lang/Integer$IntegerCache"), (3, u "I"), (8, .class_ 204), (0, u "java/lang/Number"), (2, u "value"), (94, u "TYPE"), (0, u "Ljava/lang/Class;"), (0, .class_ 305), (0, u "java/lang/Comparable"), (0, .class_ 307), (0, u "java/lang/constant/Constable"), (0, .class_ 309), (0, u "java/lang/constant/ConstantDesc"), (0, u "MIN_VALUE"), (1, u "MAX_VALUE"), (3, u "SIZE"), (1, u "BYTES"), (1, u "serialVersionUID"), (0, u "J")] 131

def k15c0 : Code := { maxStack := 4, maxLocals := 7, code := jdk_33_method_12_code, exceptionTable := #[], attributes := #[] }
def k15m0 : Method := { name := "getChars", desc := "(II[B)I", sig := { parameters := [.int, .int, (.array .byte)], returnType := some .int }, accessFlags := 8, code := some k15c0 }
def k15c1 : Code := { maxStack := 2, maxLocals := 4, code := jdk_33_method_13_code, exceptionTable := #[], attributes := #[] }
def k15m1 : Method := { name := "stringSize", desc := "(I)I", sig := { parameters := [.int], returnType := some .int }, accessFlags := 8, code := some k15c1 }
/-- java/lang/Integer -/
def k15 : Class := { plain "java/lang/Integer" (some 14) with
  accessFlags := 49
  interfaces := #[3, 2, 8]
  cf := some (fileOf pool15 1 #[.nestMembers #[189]] #[{ accessFlags := 8, nameIndex := 77, descriptorIndex := 78, attributes := #[] }, { accessFlags := 8, nameIndex := 74, descriptorIndex := 54, attributes := #[] }] 49 203 #[304, 306, 308] #[{ accessFlags := 25, nameIndex := 310, descriptorIndex := 194, attributes := #[] }, { accessFlags := 25, nameIndex := 312, descriptorIndex := 194, attributes := #[] }, { accessFlags := 25, nameIndex := 302, descriptorIndex := 303, attributes := #[] }, { accessFlags := 24, nameIndex := 19, descriptorIndex := 20, attributes := #[] }, { accessFlags := 24, nameIndex := 89, descriptorIndex := 86, attributes := #[] }, { accessFlags := 24, nameIndex := 85, descriptorIndex := 86, attributes := #[] }, { accessFlags := 18, nameIndex := 207, descriptorIndex := 194, attributes := #[] }, { accessFlags := 25, nameIndex := 316, descriptorIndex := 194, attributes := #[] }, { accessFlags := 25, nameIndex := 318, descriptorIndex := 194, attributes := #[] }, { accessFlags := 26, nameIndex := 320, descriptorIndex := 321, attributes := #[] }])
  fields := #[{ name := "MIN_VALUE", type := .int, accessFlags := 25, slot := 0, constantValue := 0 }, { name := "MAX_VALUE", type := .int, accessFlags := 25, slot := 1, constantValue := 0 }, { name := "TYPE", type := (.object "java/lang/Class"), accessFlags := 25, slot := 2, constantValue := 0 }, { name := "digits", type := (.array .char), accessFlags := 24, slot := 3, constantValue := 0 }, { name := "DigitTens", type := (.array .byte), accessFlags := 24, slot := 4, constantValue := 0 }, { name := "DigitOnes", type := (.array .byte), accessFlags := 24, slot := 5, constantValue := 0 }, { name := "value", type := .int, accessFlags := 18, slot := 0, constantValue := 0 }, { name := "SIZE", type := .int, accessFlags := 25, slot := 6, constantValue := 0 }, { name := "BYTES", type := .int, accessFlags := 25, slot := 7, constantValue := 0 }, { name := "serialVersionUID", type := .long, accessFlags := 26, slot := 8, constantValue := 0 }]
  methods := #[k15m0, k15m1]
  instanceTypes := #[.int]
  staticTypes := #[.int, .int, (.object "java/lang/Class"), (.array .char), (.array .byte), (.array .byte), .int, .int, .long]
  resolved := Array.replicate 453 none
  statics := some 2 }

def pool16 : Array CpInfo := pool [(9, u "<init>"), (6, .class_ 18), (1, u "java/lang/Object"), (0, u "()V"), (1, .class_ 23), (1, u "jdk/internal/util/ArraysSupport"), (0, u "LOG2_ARRAY_LONG_INDEX_SCALE"), (0, u "I"), (2, u "U"), (0, u "Ljdk/internal/misc/Unsafe;"), (8, u "BIG_ENDIAN"), (0, u "Z"), (8, u "LOG2_BYTE_BIT_SIZE"), (4, u "LOG2_ARRAY_INT_INDEX_SCALE"), (54, u "JLA"), (0, u "Ljdk/internal/access/JavaLangAccess;"), (11, u "LOG2_ARRAY_BOOLEAN_INDEX_SCALE"), (9, u "LOG2_ARRAY_BYTE_INDEX_SCALE"), (5, u "LOG2_ARRAY_CHAR_INDEX_SCALE"), (5, u "LOG2_ARRAY_SHORT_INDEX_SCALE"), (18, u "LOG2_ARRAY_FLOAT_INDEX_SCALE"), (24, u "LOG2_ARRAY_DOUBLE_INDEX_SCALE"), (6, .methodref 195 196), (0, .class_ 197), (0, .nameAndType 198 199), (0, u "java/lang/Math"), (0, u "max"), (0, u "(II)I"), (0, .integer 2147483639), (76, u "T_BOOLEAN"), (2, u "T_CHAR"), (1, u "T_FLOAT"), (1, u "T_DOUBLE"), (1, u "T_BYTE"), (1, u "T_SHORT"), (1, u "T_INT"), (1, u "T_LONG"), (1, u "SOFT_MAX_ARRAY_LENGTH"), (56, u "newLength"), (0, u "(III)I")] 25

def k16m0 : Method := { name := "<init>", desc := "()V", sig := { parameters := [], returnType := none }, accessFlags := 2, code := none }
def k16c1 : Code := { maxStack := 3, maxLocals := 4, code := jdk_48_method_27_code, exceptionTable := #[], attributes := #[] }
def k16m1 : Method := { name := "newLength", desc := "(III)I", sig := { parameters := [.int, .int, .int], returnType := some .int }, accessFlags := 9, code := some k16c1 }
/-- jdk/internal/util/ArraysSupport -/
def k16 : Class := { plain "jdk/internal/util/ArraysSupport" (some 0) with
  accessFlags := 33
  interfaces := #[]
  cf := some (fileOf pool16 21 #[] #[{ accessFlags := 2, nameIndex := 9, descriptorIndex := 19, attributes := #[] }, { accessFlags := 9, nameIndex := 351, descriptorIndex := 352, attributes := #[] }] 33 16 #[] #[{ accessFlags := 24, nameIndex := 28, descriptorIndex := 29, attributes := #[] }, { accessFlags := 26, nameIndex := 38, descriptorIndex := 39, attributes := #[] }, { accessFlags := 25, nameIndex := 121, descriptorIndex := 25, attributes := #[] }, { accessFlags := 25, nameIndex := 131, descriptorIndex := 25, attributes := #[] }, { accessFlags := 25, nameIndex := 137, descriptorIndex := 25, attributes := #[] }, { accessFlags := 25, nameIndex := 143, descriptorIndex := 25, attributes := #[] }, { accessFlags := 25, nameIndex := 53, descriptorIndex := 25, attributes := #[] }, { accessFlags := 25, nameIndex := 24, descriptorIndex := 25, attributes := #[] }, { accessFlags := 25, nameIndex := 162, descriptorIndex := 25, attributes := #[] }, { accessFlags := 25, nameIndex := 187, descriptorIndex := 25, attributes := #[] }, { accessFlags := 26, nameIndex := 48, descriptorIndex := 25, attributes := #[] }, { accessFlags := 25, nameIndex := 277, descriptorIndex := 25, attributes := #[] }, { accessFlags := 25, nameIndex := 280, descriptorIndex := 25, attributes := #[] }, { accessFlags := 25, nameIndex := 282, descriptorIndex := 25, attributes := #[] }, { accessFlags := 25, nameIndex := 284, descriptorIndex := 25, attributes := #[] }, { accessFlags := 25, nameIndex := 286, descriptorIndex := 25, attributes := #[] }, { accessFlags := 25, nameIndex := 288, descriptorIndex := 25, attributes := #[] }, { accessFlags := 25, nameIndex := 290, descriptorIndex := 25, attributes := #[] }, { accessFlags := 25, nameIndex := 292, descriptorIndex := 25, attributes := #[] }, { accessFlags := 26, nameIndex := 108, descriptorIndex := 109, attributes := #[] }, { accessFlags := 25, nameIndex := 294, descriptorIndex := 25, attributes := #[] }])
  fields := #[{ name := "U", type := (.object "jdk/internal/misc/Unsafe"), accessFlags := 24, slot := 0, constantValue := 0 }, { name := "BIG_ENDIAN", type := .boolean, accessFlags := 26, slot := 1, constantValue := 0 }, { name := "LOG2_ARRAY_BOOLEAN_INDEX_SCALE", type := .int, accessFlags := 25, slot := 2, constantValue := 0 }, { name := "LOG2_ARRAY_BYTE_INDEX_SCALE", type := .int, accessFlags := 25, slot := 3, constantValue := 0 }, { name := "LOG2_ARRAY_CHAR_INDEX_SCALE", type := .int, accessFlags := 25, slot := 4, constantValue := 0 }, { name := "LOG2_ARRAY_SHORT_INDEX_SCALE", type := .int, accessFlags := 25, slot := 5, constantValue := 0 }, { name := "LOG2_ARRAY_INT_INDEX_SCALE", type := .int, accessFlags := 25, slot := 6, constantValue := 0 }, { name := "LOG2_ARRAY_LONG_INDEX_SCALE", type := .int, accessFlags := 25, slot := 7, constantValue := 0 }, { name := "LOG2_ARRAY_FLOAT_INDEX_SCALE", type := .int, accessFlags := 25, slot := 8, constantValue := 0 }, { name := "LOG2_ARRAY_DOUBLE_INDEX_SCALE", type := .int, accessFlags := 25, slot := 9, constantValue := 0 }, { name := "LOG2_BYTE_BIT_SIZE", type := .int, accessFlags := 26, slot := 10, constantValue := 0 }, { name := "T_BOOLEAN", type := .int, accessFlags := 25, slot := 11, constantValue := 0 }, { name := "T_CHAR", type := .int, accessFlags := 25, slot := 12, constantValue := 0 }, { name := "T_FLOAT", type := .int, accessFlags := 25, slot := 13, constantValue := 0 }, { name := "T_DOUBLE", type := .int, accessFlags := 25, slot := 14, constantValue := 0 }, { name := "T_BYTE", type := .int, accessFlags := 25, slot := 15, constantValue := 0 }, { name := "T_SHORT", type := .int, accessFlags := 25, slot := 16, constantValue := 0 }, { name := "T_INT", type := .int, accessFlags := 25, slot := 17, constantValue := 0 }, { name := "T_LONG", type := .int, accessFlags := 25, slot := 18, constantValue := 0 }, { name := "JLA", type := (.object "jdk/internal/access/JavaLangAccess"), accessFlags := 26, slot := 19, constantValue := 0 }, { name := "SOFT_MAX_ARRAY_LENGTH", type := .int, accessFlags := 25, slot := 20, constantValue := 0 }]
  methods := #[k16m0, k16m1]
  instanceTypes := #[]
  staticTypes := #[(.object "jdk/internal/misc/Unsafe"), .boolean, .int, .int, .int, .int, .int, .int, .int, .int, .int, .int, .int, .int, .int, .int, .int, .int, .int, (.object "jdk/internal/access/JavaLangAccess"), .int]
  resolved := Array.replicate 378 none
  statics := none }

def pool17 : Array CpInfo := pool [(1, .class_ 2), (0, u "java/lang/Math"), (1, .class_ 6), (1, u "java/lang/Object"), (0, u "<init>"), (0, u "()V"), (89, .class_ 100), (1, u "java/lang/Math$RandomNumberGeneratorHolder"), (71, u "negativeZeroFloatBits"), (0, u "J"), (2, u "negativeZeroDoubleBits"), (21, u "max"), (2, u "min"), (43, u "$assertionsDisabled"), (0, u "Z"), (88, u "(II)I"), (2, u "twoToTheDoubleScaleDown"), (0, u "D"), (4, u "twoToTheDoubleScaleUp"), (9, u "E"), (3, u "PI"), (2, u "TAU"), (2, u "DEGREES_TO_RADIANS"), (0, u "RADIANS_TO_DEGREES")] 94

def k17m0 : Method := { name := "<init>", desc := "()V", sig := { parameters := [], returnType := none }, accessFlags := 2, code := none }
def k17c1 : Code := { maxStack := 2, maxLocals := 2, code := jdk_29_method_65_code, exceptionTable := #[], attributes := #[] }
def k17m1 : Method := { name := "max", desc := "(II)I", sig := { parameters := [.int, .int], returnType := some .int }, accessFlags := 9, code := some k17c1 }
def k17c2 : Code := { maxStack := 2, maxLocals := 2, code := jdk_29_method_69_code, exceptionTable := #[], attributes := #[] }
def k17m2 : Method := { name := "min", desc := "(II)I", sig := { parameters := [.int, .int], returnType := some .int }, accessFlags := 9, code := some k17c2 }
/-- java/lang/Math -/
def k17 : Class := { plain "java/lang/Math" (some 0) with
  accessFlags := 49
  interfaces := #[]
  cf := some (fileOf pool17 1 #[.nestMembers #[98]] #[{ accessFlags := 2, nameIndex := 7, descriptorIndex := 8, attributes := #[] }, { accessFlags := 9, nameIndex := 198, descriptorIndex := 335, attributes := #[] }, { accessFlags := 9, nameIndex := 201, descriptorIndex := 335, attributes := #[] }] 49 4 #[] #[{ accessFlags := 25, nameIndex := 354, descriptorIndex := 339, attributes := #[] }, { accessFlags := 25, nameIndex := 358, descriptorIndex := 339, attributes := #[] }, { accessFlags := 25, nameIndex := 361, descriptorIndex := 339, attributes := #[] }, { accessFlags := 26, nameIndex := 364, descriptorIndex := 339, attributes := #[] }, { accessFlags := 26, nameIndex := 365, descriptorIndex := 339, attributes := #[] }, { accessFlags := 26, nameIndex := 172, descriptorIndex := 173, attributes := #[] }, { accessFlags := 26, nameIndex := 176, descriptorIndex := 173, attributes := #[] }, { accessFlags := 8, nameIndex := 344, descriptorIndex := 339, attributes := #[] }, { accessFlags := 8, nameIndex := 338, descriptorIndex := 339, attributes := #[] }, { accessFlags := 4120, nameIndex := 245, descriptorIndex := 246, attributes := #[] }])
  fields := #[{ name := "E", type := .double, accessFlags := 25, slot := 0, constantValue := 0 }, { name := "PI", type := .double, accessFlags := 25, slot := 1, constantValue := 0 }, { name := "TAU", type := .double, accessFlags := 25, slot := 2, constantValue := 0 }, { name := "DEGREES_TO_RADIANS", type := .double, accessFlags := 26, slot := 3, constantValue := 0 }, { name := "RADIANS_TO_DEGREES", type := .double, accessFlags := 26, slot := 4, constantValue := 0 }, { name := "negativeZeroFloatBits", type := .long, accessFlags := 26, slot := 5, constantValue := 0 }, { name := "negativeZeroDoubleBits", type := .long, accessFlags := 26, slot := 6, constantValue := 0 }, { name := "twoToTheDoubleScaleUp", type := .double, accessFlags := 8, slot := 7, constantValue := 0 }, { name := "twoToTheDoubleScaleDown", type := .double, accessFlags := 8, slot := 8, constantValue := 0 }, { name := "$assertionsDisabled", type := .boolean, accessFlags := 4120, slot := 9, constantValue := 0 }]
  methods := #[k17m0, k17m1, k17m2]
  instanceTypes := #[]
  staticTypes := #[.double, .double, .double, .double, .double, .long, .long, .double, .double, .boolean]
  resolved := Array.replicate 460 none
  statics := none }

def pool18 : Array CpInfo := pool [(2, .class_ 4), (1, u "java/lang/Object"), (0, u "<init>"), (0, u "()V"), (7, .class_ 16), (1, u "java/util/Arrays"), (57, .class_ 76), (1, u "java/util/Arrays$NaturalOrder"), (36, .class_ 115), (1, u "java/util/Arrays$LegacyMergeSort"), (1, u "Z"), (21, u "copyOfRange"), (10, .methodref 151 152), (0, .class_ 153), (0, .nameAndType 154 155), (0, u "java/lang/System"), (0, u "arraycopy"), (0, u "(Ljava/lang/Object;ILjava/lang/Object;II)V"), (146, u "copyOf"), (1, .methodref 305 306), (0, .class_ 307), (0, .nameAndType 308 309), (0, u "java/lang/Math"), (0, u "min"), (0, u "(II)I"), (29, .methodref 14 340), (0, .nameAndType 341 342), (0, u "copyOfRangeByte"), (0, u "([BII)[B"), (0, .methodref 14 344), (0, .nameAndType 345 346), (0, u "checkLength"), (0, u "(II)V"), (28, .class_ 376), (0, u "java/util/Arrays$ArrayList"), (68, u "$assertionsDisabled"), (269, u "MIN_ARRAY_SORT_GRAN"), (0, u "I"), (2, u "INSERTIONSORT_THRESHOLD"), (149, u "([BI)[B"), (105, .class_ 976), (0, u "java/util/Arrays$ArrayItr")] 52

def k18m0 : Method := { name := "<init>", desc := "()V", sig := { parameters := [], returnType := none }, accessFlags := 2, code := none }
def k18c1 : Code := { maxStack := 6, maxLocals := 3, code := jdk_65_method_121_code, exceptionTable := #[], attributes := #[] }
def k18m1 : Method := { name := "copyOf", desc := "([BI)[B", sig := { parameters := [(.array .byte), .int], returnType := some (.array .byte) }, accessFlags := 9, code := some k18c1 }
def k18c2 : Code := { maxStack := 4, maxLocals := 2, code := jdk_65_method_131_code, exceptionTable := #[], attributes := #[] }
def k18m2 : Method := { name := "checkLength", desc := "(II)V", sig := { parameters := [.int, .int], returnType := none }, accessFlags := 10, code := some k18c2 }
def k18c3 : Code := { maxStack := 3, maxLocals := 3, code := jdk_65_method_132_code, exceptionTable := #[], attributes := #[] }
def k18m3 : Method := { name := "copyOfRange", desc := "([BII)[B", sig := { parameters := [(.array .byte), .int, .int], returnType := some (.array .byte) }, accessFlags := 9, code := some k18c3 }
def k18c4 : Code := { maxStack := 6, maxLocals := 5, code := jdk_65_method_133_code, exceptionTable := #[], attributes := #[] }
def k18m4 : Method := { name := "copyOfRangeByte", desc := "([BII)[B", sig := { parameters := [(.array .byte), .int, .int], returnType := some (.array .byte) }, accessFlags := 10, code := some k18c4 }
/-- java/util/Arrays -/
def k18 : Class := { plain "java/util/Arrays" (some 0) with
  accessFlags := 49
  interfaces := #[]
  cf := some (fileOf pool18 14 #[.nestMembers #[975, 375, 113, 74]] #[{ accessFlags := 2, nameIndex := 5, descriptorIndex := 6, attributes := #[] }, { accessFlags := 9, nameIndex := 302, descriptorIndex := 869, attributes := #[] }, { accessFlags := 10, nameIndex := 345, descriptorIndex := 346, attributes := #[] }, { accessFlags := 9, nameIndex := 139, descriptorIndex := 342, attributes := #[] }, { accessFlags := 10, nameIndex := 341, descriptorIndex := 342, attributes := #[] }] 49 2 #[] #[{ accessFlags := 26, nameIndex := 715, descriptorIndex := 716, attributes := #[] }, { accessFlags := 26, nameIndex := 719, descriptorIndex := 716, attributes := #[] }, { accessFlags := 4120, nameIndex := 445, descriptorIndex := 117, attributes := #[] }])
  fields := #[{ name := "MIN_ARRAY_SORT_GRAN", type := .int, accessFlags := 26, slot := 0, constantValue := 0 }, { name := "INSERTIONSORT_THRESHOLD", type := .int, accessFlags := 26, slot := 1, constantValue := 0 }, { name := "$assertionsDisabled", type := .boolean, accessFlags := 4120, slot := 2, constantValue := 0 }]
  methods := #[k18m0, k18m1, k18m2, k18m3, k18m4]
  instanceTypes := #[]
  staticTypes := #[.int, .int, .boolean]
  resolved := Array.replicate 1029 none
  statics := none }

def pool19 : Array CpInfo := pool [(4, .class_ 6), (1, u "java/lang/Object"), (0, u "<init>"), (0, u "()V"), (5, .class_ 16), (1, u "java/lang/StringLatin1"), (104, u "$assertionsDisabled"), (0, u "Z"), (98, .class_ 223), (1, u "java/lang/StringLatin1$LinesSpliterator"), (57, u "equals"), (0, u "([B[B)Z"), (107, .class_ 391), (0, u "java/lang/StringLatin1$CharsSpliterator")] 3

def k19m0 : Method := { name := "<init>", desc := "()V", sig := { parameters := [], returnType := none }, accessFlags := 0, code := none }
def k19c1 : Code := { maxStack := 3, maxLocals := 3, code := jdk_43_method_13_code, exceptionTable := #[], attributes := #[] }
def k19m1 : Method := { name := "equals", desc := "([B[B)Z", sig := { parameters := [(.array .byte), (.array .byte)], returnType := some .boolean }, accessFlags := 9, code := some k19c1 }
/-- java/lang/StringLatin1 -/
def k19 : Class := { plain "java/lang/StringLatin1" (some 0) with
  accessFlags := 48
  interfaces := #[]
  cf := some (fileOf pool19 14 #[.nestMembers #[390, 221]] #[{ accessFlags := 0, nameIndex := 7, descriptorIndex := 8, attributes := #[] }, { accessFlags := 9, nameIndex := 281, descriptorIndex := 282, attributes := #[] }] 48 4 #[] #[{ accessFlags := 4120, nameIndex := 121, descriptorIndex := 122, attributes := #[] }])
  fields := #[{ name := "$assertionsDisabled", type := .boolean, accessFlags := 4120, slot := 0, constantValue := 0 }]
  methods := #[k19m0, k19m1]
  instanceTypes := #[]
  staticTypes := #[.boolean]
  resolved := Array.replicate 395 none
  statics := none }

def pool20 : Array CpInfo := pool [(2, .class_ 4), (1, u "java/lang/Object"), (0, u "<init>"), (0, u "()V"), (17, .class_ 26), (1, u "jdk/internal/util/Preconditions"), (28, .class_ 56), (0, u "jdk/internal/util/Preconditions$4"), (57, .class_ 115), (0, u "jdk/internal/util/Preconditions$1"), (7, u "SIOOBE_FORMATTER"), (0, u "Ljava/util/function/BiFunction;"), (0, .class_ 126), (0, u "jdk/internal/util/Preconditions$2"), (3, u "AIOOBE_FORMATTER"), (0, .class_ 132), (0, u "jdk/internal/util/Preconditions$3"), (3, u "IOOBE_FORMATTER")] 57

def k20m0 : Method := { name := "<init>", desc := "()V", sig := { parameters := [], returnType := none }, accessFlags := 1, code := none }
/-- jdk/internal/util/Preconditions -/
def k20 : Class := { plain "jdk/internal/util/Preconditions" (some 0) with
  accessFlags := 33
  interfaces := #[]
  cf := some (fileOf pool20 24 #[.nestMembers #[55, 131, 125, 114]] #[{ accessFlags := 1, nameIndex := 5, descriptorIndex := 6, attributes := #[] }] 33 2 #[] #[{ accessFlags := 25, nameIndex := 123, descriptorIndex := 124, attributes := #[] }, { accessFlags := 25, nameIndex := 130, descriptorIndex := 124, attributes := #[] }, { accessFlags := 25, nameIndex := 136, descriptorIndex := 124, attributes := #[] }])
  fields := #[{ name := "SIOOBE_FORMATTER", type := (.object "java/util/function/BiFunction"), accessFlags := 25, slot := 0, constantValue := 0 }, { name := "AIOOBE_FORMATTER", type := (.object "java/util/function/BiFunction"), accessFlags := 25, slot := 1, constantValue := 0 }, { name := "IOOBE_FORMATTER", type := (.object "java/util/function/BiFunction"), accessFlags := 25, slot := 2, constantValue := 0 }]
  methods := #[k20m0]
  instanceTypes := #[]
  staticTypes := #[(.object "java/util/function/BiFunction"), (.object "java/util/function/BiFunction"), (.object "java/util/function/BiFunction")]
  resolved := Array.replicate 194 none
  statics := some 3 }

def pool21 : Array CpInfo := pool [(1, u "java/lang/Cloneable"), (0, .class_ 1), (0, u "java/lang/Object"), (0, .class_ 3)] 3

/-- java/lang/Cloneable -/
def k21 : Class := { plain "java/lang/Cloneable" (some 0) with
  accessFlags := 1537
  interfaces := #[]
  cf := some (fileOf pool21 2 #[] #[] 1537 4 #[] #[])
  fields := #[]
  methods := #[]
  instanceTypes := #[]
  staticTypes := #[]
  resolved := Array.replicate 8 none
  statics := none }

/-- the primitive byte -/
def k22 : Class := { plain "byte" none with kind := .primitive 'B', accessFlags := 0x411 }
/-- [B -/
def k23 : Class := { plain "[B" (some 0) with kind := .array 22 .byte, interfaces := #[21, 4], accessFlags := 1041 }

/-- the primitive int -/
def k24 : Class := { plain "int" none with kind := .primitive 'I', accessFlags := 0x411 }
/-- [I -/
def k25 : Class := { plain "[I" (some 0) with kind := .array 24 .int, interfaces := #[21, 4], accessFlags := 1041 }

def heap : Heap := #[{ cls := 6, slots := #[.ref 4, .ref 5, .null], vm := .statics 6 },
  { cls := 9, slots := #[.long 0, .int 1, .null, .int 0, .null, .int 0, .int 0], vm := .statics 9 },
  { cls := 15, slots := #[.int 0, .int 0, .null, .null, .ref 11, .ref 10, .int 0, .int 0, .long 0], vm := .statics 15 },
  { cls := 20, slots := #[.null, .null, .null], vm := .statics 20 },
  { cls := 6, slots := #[.null, .int 0, .int 0, .ref 6, .int 3, .int 50], vm := .none },
  { cls := 6, slots := #[.null, .int 1, .int 0, .ref 7, .int 3, .int 64], vm := .none },
  { cls := 9, slots := #[.ref 8, .int 0, .int 0, .int 0], vm := .none },
  { cls := 9, slots := #[.ref 9, .int 0, .int 0, .int 0], vm := .none },
  { cls := 23, slots := #[.int 116, .int 111, .int 112, .int 105, .int 99], vm := .none },
  { cls := 23, slots := #[.int 115, .int 117, .int 98, .int 115, .int 99, .int 114, .int 105, .int 112, .int 116, .int 105, .int 111, .int 110], vm := .none },
  { cls := 23, slots := #[.int 48, .int 49, .int 50, .int 51, .int 52, .int 53, .int 54, .int 55, .int 56, .int 57, .int 48, .int 49, .int 50, .int 51, .int 52, .int 53, .int 54, .int 55, .int 56, .int 57, .int 48, .int 49, .int 50, .int 51, .int 52, .int 53, .int 54, .int 55, .int 56, .int 57, .int 48, .int 49, .int 50, .int 51, .int 52, .int 53, .int 54, .int 55, .int 56, .int 57, .int 48, .int 49, .int 50, .int 51, .int 52, .int 53, .int 54, .int 55, .int 56, .int 57, .int 48, .int 49, .int 50, .int 51, .int 52, .int 53, .int 54, .int 55, .int 56, .int 57, .int 48, .int 49, .int 50, .int 51, .int 52, .int 53, .int 54, .int 55, .int 56, .int 57, .int 48, .int 49, .int 50, .int 51, .int 52, .int 53, .int 54, .int 55, .int 56, .int 57, .int 48, .int 49, .int 50, .int 51, .int 52, .int 53, .int 54, .int 55, .int 56, .int 57, .int 48, .int 49, .int 50, .int 51, .int 52, .int 53, .int 54, .int 55, .int 56, .int 57], vm := .none },
  { cls := 23, slots := #[.int 48, .int 48, .int 48, .int 48, .int 48, .int 48, .int 48, .int 48, .int 48, .int 48, .int 49, .int 49, .int 49, .int 49, .int 49, .int 49, .int 49, .int 49, .int 49, .int 49, .int 50, .int 50, .int 50, .int 50, .int 50, .int 50, .int 50, .int 50, .int 50, .int 50, .int 51, .int 51, .int 51, .int 51, .int 51, .int 51, .int 51, .int 51, .int 51, .int 51, .int 52, .int 52, .int 52, .int 52, .int 52, .int 52, .int 52, .int 52, .int 52, .int 52, .int 53, .int 53, .int 53, .int 53, .int 53, .int 53, .int 53, .int 53, .int 53, .int 53, .int 54, .int 54, .int 54, .int 54, .int 54, .int 54, .int 54, .int 54, .int 54, .int 54, .int 55, .int 55, .int 55, .int 55, .int 55, .int 55, .int 55, .int 55, .int 55, .int 55, .int 56, .int 56, .int 56, .int 56, .int 56, .int 56, .int 56, .int 56, .int 56, .int 56, .int 57, .int 57, .int 57, .int 57, .int 57, .int 57, .int 57, .int 57, .int 57, .int 57], vm := .none }]
def classes : Array Class := #[k0, k1, k2, k3, k4, k5, k6, k7, k8, k9, k10, k11, k12, k13, k14, k15, k16, k17, k18, k19, k20, k21, k22, k23, k24, k25]
def interned : List (Array UInt16 × Addr) := []
def slotsUsed : Nat := 259
def theMethod : MethodId := ⟨1, 1⟩
def args0 : Array Value := #[.int 5]
def aboutOver (below : List Frame) : State where
  vm := { classes := classes, interned := interned.toArray }
  heap := heap
  slotsUsed := slotsUsed
  threads := #[{ frames := .invoking theMethod args0 :: below }]
def below0 : List Frame := [.native { method := ⟨0, 0⟩, args := #[] }]
def about1 : State := aboutOver below0
def p0 : Program := .bare "" "" ""
def e0 : Env := launch0.env 0 0 0
theorem w_frames : about1.frames = Frame.invoking theMethod args0 :: below0 := rfl
set_option maxRecDepth 65536 in
theorem w_args : argsFit about1.vm theMethod args0 = true := by decide +kernel
set_option maxRecDepth 65536 in
theorem w_heap : heapFits about1 = true := by decide +kernel
set_option maxRecDepth 65536 in
theorem w_runnable : about1.curStatus? = some .runnable := by decide +kernel
set_option maxRecDepth 65536 in
theorem w_alone : about1.alone = true := by decide +kernel
set_option maxRecDepth 65536 in
theorem w_named : about1.methodNamed? x = some theMethod := by decide +kernel
set_option maxRecDepth 65536 in
theorem w_hears : about1.hears theMethod below0 = true := by decide +kernel
set_option maxRecDepth 65536 in
theorem w_ripe : about1.ripe theMethod args0 below0 = true := by decide +kernel
theorem w_running : about1.status = .running := rfl
set_option maxRecDepth 65536 in
theorem w_room : about1.hasRoom e0.platform room_1 = true :=
  launch0.hasRoom_least _ room_1 (by decide +kernel) (by decide +kernel) (by decide +kernel) (by decide +kernel) (by decide +kernel) (by decide +kernel)
theorem allAtoms_all (ts : List Jvm.Cond) (a : Array Jvm.Value) (st : Jvm.State) : (allAtoms ts).before a st = ts.all (fun c => c.before a st) := by
  induction ts with
  | nil => rfl
  | cons c t ih =>
    show (Jvm.Cond.and c (allAtoms t)).before a st = _
    rw [Jvm.Cond.before_and, ih, List.all_cons]
def words1 : List Jvm.Cond := Jvm.Cond.code x code maxLocals ret :: tables_1
/-- a 'code' word, met by the world's own term for the bytes: nothing is compared byte by byte -/
theorem code_word {y : MethodName} {bytes : ByteArray} {mx : Nat} {rt : Option FieldType} {a : Array Value} {s : State} {m : MethodId} {meth : Method} {c : Code} (h1 : s.methodNamed? y = some m) (h2 : s.vm.method? m = some meth) (h3 : meth.code = some c) (h4 : c.code = bytes)
    (h5 : (c.maxLocals == mx && c.exceptionTable.isEmpty && decide (c.maxStack ≤ mostOperands) && decide (meth.sig.returnType = rt) && !meth.locks && decide (parseMethodDescriptor y.desc = some meth.sig)) = true) : (Jvm.Cond.code y bytes mx rt).before a s = true := by
  simp only [Bool.and_eq_true, beq_iff_eq, Bool.not_eq_true', decide_eq_true_eq] at h5
  obtain ⟨⟨⟨⟨⟨g1, g2⟩, g3⟩, g4⟩, g5⟩, g6⟩ := h5
  simp [Cond.before, Cond.holds, Cond.value, h1, h2, h3, h4, g1, g2, g3, g4, g5, g6]
def isCode : Jvm.Cond → Bool
  | .code _ _ _ _ => true
  | _ => false
theorem all_split {L : List Jvm.Cond} {P : Jvm.Cond → Bool} (h1 : L.all (fun c => isCode c || P c) = true) (h2 : ∀ c ∈ L.filter isCode, P c = true) : L.all P = true := by
  refine List.all_eq_true.mpr fun c hc => ?_
  have h := List.all_eq_true.mp h1 c hc
  rcases Bool.eq_false_or_eq_true (isCode c) with hi | hi
  · exact h2 c (List.mem_filter.mpr ⟨hc, hi⟩)
  · simpa [hi] using h
set_option maxRecDepth 65536 in
theorem w_c0 : (Jvm.Cond.code x code maxLocals ret).before args0 about1 = true := code_word (m := ⟨1, 1⟩) (meth := k1m1) (c := k1c1) (by decide +kernel) rfl rfl rfl (by decide +kernel)
set_option maxRecDepth 65536 in
theorem w_c1 : (Jvm.Cond.code ({ cls := "com/example/patient_courier/patientcourier/NameRule", name := "requirement", desc := "()Ljava/lang/String;" } : Jvm.MethodName) prog_10_method_5_code (1 : Nat) (Option.some (Jvm.ClassFile.FieldType.object "java/lang/String"))).before args0 about1 = true := code_word (m := ⟨6, 0⟩) (meth := k6m0) (c := k6c0) (by decide +kernel) rfl rfl rfl (by decide +kernel)
set_option maxRecDepth 65536 in
theorem w_c2 : (Jvm.Cond.code ({ cls := "java/lang/StringBuilder", name := "<init>", desc := "()V" } : Jvm.MethodName) jdk_67_method_1_code (1 : Nat) (Option.none : Option Jvm.ClassFile.FieldType)).before args0 about1 = true := code_word (m := ⟨12, 0⟩) (meth := k12m0) (c := k12c0) (by decide +kernel) rfl rfl rfl (by decide +kernel)
set_option maxRecDepth 65536 in
theorem w_c3 : (Jvm.Cond.code ({ cls := "java/lang/AbstractStringBuilder", name := "<init>", desc := "(I)V" } : Jvm.MethodName) jdk_68_method_2_code (2 : Nat) (Option.none : Option Jvm.ClassFile.FieldType)).before args0 about1 = true := code_word (m := ⟨11, 1⟩) (meth := k11m1) (c := k11c1) (by decide +kernel) rfl rfl rfl (by decide +kernel)
set_option maxRecDepth 65536 in
theorem w_c4 : (Jvm.Cond.code ({ cls := "java/lang/Object", name := "<init>", desc := "()V" } : Jvm.MethodName) object_method_1_code (1 : Nat) (Option.none : Option Jvm.ClassFile.FieldType)).before args0 about1 = true := code_word (m := ⟨0, 0⟩) (meth := k0m0) (c := k0c0) (by decide +kernel) rfl rfl rfl (by decide +kernel)
set_option maxRecDepth 65536 in
theorem w_c5 : (Jvm.Cond.code ({ cls := "java/lang/StringBuilder", name := "append", desc := "(Ljava/lang/String;)Ljava/lang/StringBuilder;" } : Jvm.MethodName) jdk_67_method_7_code (2 : Nat) (Option.some (Jvm.ClassFile.FieldType.object "java/lang/StringBuilder"))).before args0 about1 = true := code_word (m := ⟨12, 1⟩) (meth := k12m1) (c := k12c1) (by decide +kernel) rfl rfl rfl (by decide +kernel)
set_option maxRecDepth 65536 in
theorem w_c6 : (Jvm.Cond.code ({ cls := "java/lang/AbstractStringBuilder", name := "append", desc := "(Ljava/lang/String;)Ljava/lang/AbstractStringBuilder;" } : Jvm.MethodName) jdk_68_method_22_code (3 : Nat) (Option.some (Jvm.ClassFile.FieldType.object "java/lang/AbstractStringBuilder"))).before args0 about1 = true := code_word (m := ⟨11, 5⟩) (meth := k11m5) (c := k11c5) (by decide +kernel) rfl rfl rfl (by decide +kernel)
set_option maxRecDepth 65536 in
theorem w_c7 : (Jvm.Cond.code ({ cls := "java/lang/String", name := "length", desc := "()I" } : Jvm.MethodName) jdk_42_method_54_code (1 : Nat) (Option.some Jvm.ClassFile.FieldType.int)).before args0 about1 = true := code_word (m := ⟨9, 2⟩) (meth := k9m2) (c := k9c2) (by decide +kernel) rfl rfl rfl (by decide +kernel)
set_option maxRecDepth 65536 in
theorem w_c8 : (Jvm.Cond.code ({ cls := "java/lang/String", name := "coder", desc := "()B" } : Jvm.MethodName) jdk_42_method_152_code (1 : Nat) (Option.some Jvm.ClassFile.FieldType.byte)).before args0 about1 = true := code_word (m := ⟨9, 6⟩) (meth := k9m6) (c := k9c6) (by decide +kernel) rfl rfl rfl (by decide +kernel)
set_option maxRecDepth 65536 in
theorem w_c9 : (Jvm.Cond.code ({ cls := "java/lang/AbstractStringBuilder", name := "ensureCapacityInternal", desc := "(I)V" } : Jvm.MethodName) jdk_68_method_9_code (3 : Nat) (Option.none : Option Jvm.ClassFile.FieldType)).before args0 about1 = true := code_word (m := ⟨11, 3⟩) (meth := k11m3) (c := k11c3) (by decide +kernel) rfl rfl rfl (by decide +kernel)
set_option maxRecDepth 65536 in
theorem w_c10 : (Jvm.Cond.code ({ cls := "java/lang/AbstractStringBuilder", name := "putStringAt", desc := "(ILjava/lang/String;)V" } : Jvm.MethodName) jdk_68_method_73_code (3 : Nat) (Option.none : Option Jvm.ClassFile.FieldType)).before args0 about1 = true := code_word (m := ⟨11, 10⟩) (meth := k11m10) (c := k11c10) (by decide +kernel) rfl rfl rfl (by decide +kernel)
set_option maxRecDepth 65536 in
theorem w_c11 : (Jvm.Cond.code ({ cls := "java/lang/AbstractStringBuilder", name := "inflateIfNeededFor", desc := "(Ljava/lang/String;)V" } : Jvm.MethodName) jdk_68_method_71_code (2 : Nat) (Option.none : Option Jvm.ClassFile.FieldType)).before args0 about1 = true := code_word (m := ⟨11, 9⟩) (meth := k11m9) (c := k11c9) (by decide +kernel) rfl rfl rfl (by decide +kernel)
set_option maxRecDepth 65536 in
theorem w_c12 : (Jvm.Cond.code ({ cls := "java/lang/String", name := "getBytes", desc := "([BIB)V" } : Jvm.MethodName) jdk_42_method_147_code (4 : Nat) (Option.none : Option Jvm.ClassFile.FieldType)).before args0 about1 = true := code_word (m := ⟨9, 4⟩) (meth := k9m4) (c := k9c4) (by decide +kernel) rfl rfl rfl (by decide +kernel)
set_option maxRecDepth 65536 in
theorem w_c13 : (Jvm.Cond.code ({ cls := "java/lang/StringBuilder", name := "append", desc := "(I)Ljava/lang/StringBuilder;" } : Jvm.MethodName) jdk_67_method_15_code (2 : Nat) (Option.some (Jvm.ClassFile.FieldType.object "java/lang/StringBuilder"))).before args0 about1 = true := code_word (m := ⟨12, 2⟩) (meth := k12m2) (c := k12c2) (by decide +kernel) rfl rfl rfl (by decide +kernel)
set_option maxRecDepth 65536 in
theorem w_c14 : (Jvm.Cond.code ({ cls := "java/lang/AbstractStringBuilder", name := "append", desc := "(I)Ljava/lang/AbstractStringBuilder;" } : Jvm.MethodName) jdk_68_method_32_code (4 : Nat) (Option.some (Jvm.ClassFile.FieldType.object "java/lang/AbstractStringBuilder"))).before args0 about1 = true := code_word (m := ⟨11, 6⟩) (meth := k11m6) (c := k11c6) (by decide +kernel) rfl rfl rfl (by decide +kernel)
set_option maxRecDepth 65536 in
theorem w_c15 : (Jvm.Cond.code ({ cls := "java/lang/Integer", name := "stringSize", desc := "(I)I" } : Jvm.MethodName) jdk_33_method_13_code (4 : Nat) (Option.some Jvm.ClassFile.FieldType.int)).before args0 about1 = true := code_word (m := ⟨15, 1⟩) (meth := k15m1) (c := k15c1) (by decide +kernel) rfl rfl rfl (by decide +kernel)
set_option maxRecDepth 65536 in
theorem w_c16 : (Jvm.Cond.code ({ cls := "java/lang/AbstractStringBuilder", name := "newCapacity", desc := "(I)I" } : Jvm.MethodName) jdk_68_method_10_code (6 : Nat) (Option.some Jvm.ClassFile.FieldType.int)).before args0 about1 = true := code_word (m := ⟨11, 4⟩) (meth := k11m4) (c := k11c4) (by decide +kernel) rfl rfl rfl (by decide +kernel)
set_option maxRecDepth 65536 in
theorem w_c17 : (Jvm.Cond.code ({ cls := "jdk/internal/util/ArraysSupport", name := "newLength", desc := "(III)I" } : Jvm.MethodName) jdk_48_method_27_code (4 : Nat) (Option.some Jvm.ClassFile.FieldType.int)).before args0 about1 = true := code_word (m := ⟨16, 1⟩) (meth := k16m1) (c := k16c1) (by decide +kernel) rfl rfl rfl (by decide +kernel)
set_option maxRecDepth 65536 in
theorem w_c18 : (Jvm.Cond.code ({ cls := "java/lang/Math", name := "max", desc := "(II)I" } : Jvm.MethodName) jdk_29_method_65_code (2 : Nat) (Option.some Jvm.ClassFile.FieldType.int)).before args0 about1 = true := code_word (m := ⟨17, 1⟩) (meth := k17m1) (c := k17c1) (by decide +kernel) rfl rfl rfl (by decide +kernel)
set_option maxRecDepth 65536 in
theorem w_c19 : (Jvm.Cond.code ({ cls := "java/util/Arrays", name := "copyOf", desc := "([BI)[B" } : Jvm.MethodName) jdk_65_method_121_code (3 : Nat) (Option.some (Jvm.ClassFile.FieldType.array Jvm.ClassFile.FieldType.byte))).before args0 about1 = true := code_word (m := ⟨18, 1⟩) (meth := k18m1) (c := k18c1) (by decide +kernel) rfl rfl rfl (by decide +kernel)
set_option maxRecDepth 65536 in
theorem w_c20 : (Jvm.Cond.code ({ cls := "java/lang/Math", name := "min", desc := "(II)I" } : Jvm.MethodName) jdk_29_method_69_code (2 : Nat) (Option.some Jvm.ClassFile.FieldType.int)).before args0 about1 = true := code_word (m := ⟨17, 2⟩) (meth := k17m2) (c := k17c2) (by decide +kernel) rfl rfl rfl (by decide +kernel)
set_option maxRecDepth 65536 in
theorem w_c21 : (Jvm.Cond.code ({ cls := "java/lang/AbstractStringBuilder", name := "isLatin1", desc := "()Z" } : Jvm.MethodName) jdk_68_method_68_code (1 : Nat) (Option.some Jvm.ClassFile.FieldType.boolean)).before args0 about1 = true := code_word (m := ⟨11, 8⟩) (meth := k11m8) (c := k11c8) (by decide +kernel) rfl rfl rfl (by decide +kernel)
set_option maxRecDepth 65536 in
theorem w_c22 : (Jvm.Cond.code ({ cls := "java/lang/Integer", name := "getChars", desc := "(II[B)I" } : Jvm.MethodName) jdk_33_method_12_code (7 : Nat) (Option.some Jvm.ClassFile.FieldType.int)).before args0 about1 = true := code_word (m := ⟨15, 0⟩) (meth := k15m0) (c := k15c0) (by decide +kernel) rfl rfl rfl (by decide +kernel)
set_option maxRecDepth 65536 in
theorem w_c23 : (Jvm.Cond.code ({ cls := "java/lang/StringBuilder", name := "toString", desc := "()Ljava/lang/String;" } : Jvm.MethodName) jdk_67_method_42_code (1 : Nat) (Option.some (Jvm.ClassFile.FieldType.object "java/lang/String"))).before args0 about1 = true := code_word (m := ⟨12, 3⟩) (meth := k12m3) (c := k12c3) (by decide +kernel) rfl rfl rfl (by decide +kernel)
set_option maxRecDepth 65536 in
theorem w_c24 : (Jvm.Cond.code ({ cls := "java/lang/String", name := "<init>", desc := "(Ljava/lang/StringBuilder;)V" } : Jvm.MethodName) jdk_42_method_53_code (2 : Nat) (Option.none : Option Jvm.ClassFile.FieldType)).before args0 about1 = true := code_word (m := ⟨9, 1⟩) (meth := k9m1) (c := k9c1) (by decide +kernel) rfl rfl rfl (by decide +kernel)
set_option maxRecDepth 65536 in
theorem w_c25 : (Jvm.Cond.code ({ cls := "java/lang/String", name := "<init>", desc := "(Ljava/lang/AbstractStringBuilder;Ljava/lang/Void;)V" } : Jvm.MethodName) jdk_42_method_150_code (5 : Nat) (Option.none : Option Jvm.ClassFile.FieldType)).before args0 about1 = true := code_word (m := ⟨9, 5⟩) (meth := k9m5) (c := k9c5) (by decide +kernel) rfl rfl rfl (by decide +kernel)
set_option maxRecDepth 65536 in
theorem w_c26 : (Jvm.Cond.code ({ cls := "java/lang/AbstractStringBuilder", name := "getValue", desc := "()[B" } : Jvm.MethodName) jdk_68_method_64_code (1 : Nat) (Option.some (Jvm.ClassFile.FieldType.array Jvm.ClassFile.FieldType.byte))).before args0 about1 = true := code_word (m := ⟨11, 7⟩) (meth := k11m7) (c := k11c7) (by decide +kernel) rfl rfl rfl (by decide +kernel)
set_option maxRecDepth 65536 in
theorem w_c27 : (Jvm.Cond.code ({ cls := "java/lang/StringBuilder", name := "length", desc := "()I" } : Jvm.MethodName) jdk_67_method_93_code (1 : Nat) (Option.some Jvm.ClassFile.FieldType.int)).before args0 about1 = true := code_word (m := ⟨12, 4⟩) (meth := k12m4) (c := k12c4) (by decide +kernel) rfl rfl rfl (by decide +kernel)
set_option maxRecDepth 65536 in
theorem w_c28 : (Jvm.Cond.code ({ cls := "java/lang/AbstractStringBuilder", name := "length", desc := "()I" } : Jvm.MethodName) jdk_68_method_6_code (1 : Nat) (Option.some Jvm.ClassFile.FieldType.int)).before args0 about1 = true := code_word (m := ⟨11, 2⟩) (meth := k11m2) (c := k11c2) (by decide +kernel) rfl rfl rfl (by decide +kernel)
set_option maxRecDepth 65536 in
theorem w_c29 : (Jvm.Cond.code ({ cls := "java/util/Arrays", name := "copyOfRange", desc := "([BII)[B" } : Jvm.MethodName) jdk_65_method_132_code (3 : Nat) (Option.some (Jvm.ClassFile.FieldType.array Jvm.ClassFile.FieldType.byte))).before args0 about1 = true := code_word (m := ⟨18, 3⟩) (meth := k18m3) (c := k18c3) (by decide +kernel) rfl rfl rfl (by decide +kernel)
set_option maxRecDepth 65536 in
theorem w_c30 : (Jvm.Cond.code ({ cls := "java/util/Arrays", name := "copyOfRangeByte", desc := "([BII)[B" } : Jvm.MethodName) jdk_65_method_133_code (5 : Nat) (Option.some (Jvm.ClassFile.FieldType.array Jvm.ClassFile.FieldType.byte))).before args0 about1 = true := code_word (m := ⟨18, 4⟩) (meth := k18m4) (c := k18c4) (by decide +kernel) rfl rfl rfl (by decide +kernel)
set_option maxRecDepth 65536 in
theorem w_c31 : (Jvm.Cond.code ({ cls := "java/util/Arrays", name := "checkLength", desc := "(II)V" } : Jvm.MethodName) jdk_65_method_131_code (2 : Nat) (Option.none : Option Jvm.ClassFile.FieldType)).before args0 about1 = true := code_word (m := ⟨18, 2⟩) (meth := k18m2) (c := k18c2) (by decide +kernel) rfl rfl rfl (by decide +kernel)
set_option maxRecDepth 65536 in
theorem w_c32 : (Jvm.Cond.code ({ cls := "java/lang/String", name := "equals", desc := "(Ljava/lang/Object;)Z" } : Jvm.MethodName) jdk_42_method_66_code (3 : Nat) (Option.some Jvm.ClassFile.FieldType.boolean)).before args0 about1 = true := code_word (m := ⟨9, 3⟩) (meth := k9m3) (c := k9c3) (by decide +kernel) rfl rfl rfl (by decide +kernel)
set_option maxRecDepth 65536 in
theorem w_c33 : (Jvm.Cond.code ({ cls := "java/lang/StringLatin1", name := "equals", desc := "([B[B)Z" } : Jvm.MethodName) jdk_43_method_13_code (3 : Nat) (Option.some Jvm.ClassFile.FieldType.boolean)).before args0 about1 = true := code_word (m := ⟨19, 1⟩) (meth := k19m1) (c := k19c1) (by decide +kernel) rfl rfl rfl (by decide +kernel)
def codes1 : List Jvm.Cond := [Jvm.Cond.code x code maxLocals ret, Jvm.Cond.code ({ cls := "com/example/patient_courier/patientcourier/NameRule", name := "requirement", desc := "()Ljava/lang/String;" } : Jvm.MethodName) prog_10_method_5_code (1 : Nat) (Option.some (Jvm.ClassFile.FieldType.object "java/lang/String")), Jvm.Cond.code ({ cls := "java/lang/StringBuilder", name := "<init>", desc := "()V" } : Jvm.MethodName) jdk_67_method_1_code (1 : Nat) (Option.none : Option Jvm.ClassFile.FieldType), Jvm.Cond.code ({ cls := "java/lang/AbstractStringBuilder", name := "<init>", desc := "(I)V" } : Jvm.MethodName) jdk_68_method_2_code (2 : Nat) (Option.none : Option Jvm.ClassFile.FieldType), Jvm.Cond.code ({ cls := "java/lang/Object", name := "<init>", desc := "()V" } : Jvm.MethodName) object_method_1_code (1 : Nat) (Option.none : Option Jvm.ClassFile.FieldType), Jvm.Cond.code ({ cls := "java/lang/StringBuilder", name := "append", desc := "(Ljava/lang/String;)Ljava/lang/StringBuilder;" } : Jvm.MethodName) jdk_67_method_7_code (2 : Nat) (Option.some (Jvm.ClassFile.FieldType.object "java/lang/StringBuilder")), Jvm.Cond.code ({ cls := "java/lang/AbstractStringBuilder", name := "append", desc := "(Ljava/lang/String;)Ljava/lang/AbstractStringBuilder;" } : Jvm.MethodName) jdk_68_method_22_code (3 : Nat) (Option.some (Jvm.ClassFile.FieldType.object "java/lang/AbstractStringBuilder")), Jvm.Cond.code ({ cls := "java/lang/String", name := "length", desc := "()I" } : Jvm.MethodName) jdk_42_method_54_code (1 : Nat) (Option.some Jvm.ClassFile.FieldType.int), Jvm.Cond.code ({ cls := "java/lang/String", name := "coder", desc := "()B" } : Jvm.MethodName) jdk_42_method_152_code (1 : Nat) (Option.some Jvm.ClassFile.FieldType.byte), Jvm.Cond.code ({ cls := "java/lang/AbstractStringBuilder", name := "ensureCapacityInternal", desc := "(I)V" } : Jvm.MethodName) jdk_68_method_9_code (3 : Nat) (Option.none : Option Jvm.ClassFile.FieldType), Jvm.Cond.code ({ cls := "java/lang/AbstractStringBuilder", name := "putStringAt", desc := "(ILjava/lang/String;)V" } : Jvm.MethodName) jdk_68_method_73_code (3 : Nat) (Option.none : Option Jvm.ClassFile.FieldType), Jvm.Cond.code ({ cls := "java/lang/AbstractStringBuilder", name := "inflateIfNeededFor", desc := "(Ljava/lang/String;)V" } : Jvm.MethodName) jdk_68_method_71_code (2 : Nat) (Option.none : Option Jvm.ClassFile.FieldType), Jvm.Cond.code ({ cls := "java/lang/String", name := "getBytes", desc := "([BIB)V" } : Jvm.MethodName) jdk_42_method_147_code (4 : Nat) (Option.none : Option Jvm.ClassFile.FieldType), Jvm.Cond.code ({ cls := "java/lang/StringBuilder", name := "append", desc := "(I)Ljava/lang/StringBuilder;" } : Jvm.MethodName) jdk_67_method_15_code (2 : Nat) (Option.some (Jvm.ClassFile.FieldType.object "java/lang/StringBuilder")), Jvm.Cond.code ({ cls := "java/lang/AbstractStringBuilder", name := "append", desc := "(I)Ljava/lang/AbstractStringBuilder;" } : Jvm.MethodName) jdk_68_method_32_code (4 : Nat) (Option.some (Jvm.ClassFile.FieldType.object "java/lang/AbstractStringBuilder")), Jvm.Cond.code ({ cls := "java/lang/Integer", name := "stringSize", desc := "(I)I" } : Jvm.MethodName) jdk_33_method_13_code (4 : Nat) (Option.some Jvm.ClassFile.FieldType.int), Jvm.Cond.code ({ cls := "java/lang/AbstractStringBuilder", name := "newCapacity", desc := "(I)I" } : Jvm.MethodName) jdk_68_method_10_code (6 : Nat) (Option.some Jvm.ClassFile.FieldType.int), Jvm.Cond.code ({ cls := "jdk/internal/util/ArraysSupport", name := "newLength", desc := "(III)I" } : Jvm.MethodName) jdk_48_method_27_code (4 : Nat) (Option.some Jvm.ClassFile.FieldType.int), Jvm.Cond.code ({ cls := "java/lang/Math", name := "max", desc := "(II)I" } : Jvm.MethodName) jdk_29_method_65_code (2 : Nat) (Option.some Jvm.ClassFile.FieldType.int), Jvm.Cond.code ({ cls := "java/util/Arrays", name := "copyOf", desc := "([BI)[B" } : Jvm.MethodName) jdk_65_method_121_code (3 : Nat) (Option.some (Jvm.ClassFile.FieldType.array Jvm.ClassFile.FieldType.byte)), Jvm.Cond.code ({ cls := "java/lang/Math", name := "min", desc := "(II)I" } : Jvm.MethodName) jdk_29_method_69_code (2 : Nat) (Option.some Jvm.ClassFile.FieldType.int), Jvm.Cond.code ({ cls := "java/lang/AbstractStringBuilder", name := "isLatin1", desc := "()Z" } : Jvm.MethodName) jdk_68_method_68_code (1 : Nat) (Option.some Jvm.ClassFile.FieldType.boolean), Jvm.Cond.code ({ cls := "java/lang/Integer", name := "getChars", desc := "(II[B)I" } : Jvm.MethodName) jdk_33_method_12_code (7 : Nat) (Option.some Jvm.ClassFile.FieldType.int), Jvm.Cond.code ({ cls := "java/lang/StringBuilder", name := "toString", desc := "()Ljava/lang/String;" } : Jvm.MethodName) jdk_67_method_42_code (1 : Nat) (Option.some (Jvm.ClassFile.FieldType.object "java/lang/String")), Jvm.Cond.code ({ cls := "java/lang/String", name := "<init>", desc := "(Ljava/lang/StringBuilder;)V" } : Jvm.MethodName) jdk_42_method_53_code (2 : Nat) (Option.none : Option Jvm.ClassFile.FieldType), Jvm.Cond.code ({ cls := "java/lang/String", name := "<init>", desc := "(Ljava/lang/AbstractStringBuilder;Ljava/lang/Void;)V" } : Jvm.MethodName) jdk_42_method_150_code (5 : Nat) (Option.none : Option Jvm.ClassFile.FieldType), Jvm.Cond.code ({ cls := "java/lang/AbstractStringBuilder", name := "getValue", desc := "()[B" } : Jvm.MethodName) jdk_68_method_64_code (1 : Nat) (Option.some (Jvm.ClassFile.FieldType.array Jvm.ClassFile.FieldType.byte)), Jvm.Cond.code ({ cls := "java/lang/StringBuilder", name := "length", desc := "()I" } : Jvm.MethodName) jdk_67_method_93_code (1 : Nat) (Option.some Jvm.ClassFile.FieldType.int), Jvm.Cond.code ({ cls := "java/lang/AbstractStringBuilder", name := "length", desc := "()I" } : Jvm.MethodName) jdk_68_method_6_code (1 : Nat) (Option.some Jvm.ClassFile.FieldType.int), Jvm.Cond.code ({ cls := "java/util/Arrays", name := "copyOfRange", desc := "([BII)[B" } : Jvm.MethodName) jdk_65_method_132_code (3 : Nat) (Option.some (Jvm.ClassFile.FieldType.array Jvm.ClassFile.FieldType.byte)), Jvm.Cond.code ({ cls := "java/util/Arrays", name := "copyOfRangeByte", desc := "([BII)[B" } : Jvm.MethodName) jdk_65_method_133_code (5 : Nat) (Option.some (Jvm.ClassFile.FieldType.array Jvm.ClassFile.FieldType.byte)), Jvm.Cond.code ({ cls := "java/util/Arrays", name := "checkLength", desc := "(II)V" } : Jvm.MethodName) jdk_65_method_131_code (2 : Nat) (Option.none : Option Jvm.ClassFile.FieldType), Jvm.Cond.code ({ cls := "java/lang/String", name := "equals", desc := "(Ljava/lang/Object;)Z" } : Jvm.MethodName) jdk_42_method_66_code (3 : Nat) (Option.some Jvm.ClassFile.FieldType.boolean), Jvm.Cond.code ({ cls := "java/lang/StringLatin1", name := "equals", desc := "([B[B)Z" } : Jvm.MethodName) jdk_43_method_13_code (3 : Nat) (Option.some Jvm.ClassFile.FieldType.boolean)]
set_option maxRecDepth 65536 in
theorem codes_eq : words1.filter isCode = codes1 := rfl
theorem w_codes : ∀ c ∈ words1.filter isCode, c.before args0 about1 = true := by
  rw [codes_eq]
  intro c hc
  simp only [codes1, List.mem_cons, List.not_mem_nil, or_false] at hc
  rcases hc with rfl | rfl | rfl | rfl | rfl | rfl | rfl | rfl | rfl | rfl | rfl | rfl | rfl | rfl | rfl | rfl | rfl | rfl | rfl | rfl | rfl | rfl | rfl | rfl | rfl | rfl | rfl | rfl | rfl | rfl | rfl | rfl | rfl | rfl
  · exact w_c0
  · exact w_c1
  · exact w_c2
  · exact w_c3
  · exact w_c4
  · exact w_c5
  · exact w_c6
  · exact w_c7
  · exact w_c8
  · exact w_c9
  · exact w_c10
  · exact w_c11
  · exact w_c12
  · exact w_c13
  · exact w_c14
  · exact w_c15
  · exact w_c16
  · exact w_c17
  · exact w_c18
  · exact w_c19
  · exact w_c20
  · exact w_c21
  · exact w_c22
  · exact w_c23
  · exact w_c24
  · exact w_c25
  · exact w_c26
  · exact w_c27
  · exact w_c28
  · exact w_c29
  · exact w_c30
  · exact w_c31
  · exact w_c32
  · exact w_c33
set_option maxRecDepth 65536 in
theorem w_t1 : (words1.take 24).all (fun c => isCode c || c.before args0 about1) = true := by decide +kernel
set_option maxRecDepth 65536 in
theorem w_t2 : ((words1.drop 24).take 24).all (fun c => isCode c || c.before args0 about1) = true := by decide +kernel
set_option maxRecDepth 65536 in
theorem w_t3 : (((words1.drop 24).drop 24).take 24).all (fun c => isCode c || c.before args0 about1) = true := by decide +kernel
set_option maxRecDepth 65536 in
theorem w_t4 : ((((words1.drop 24).drop 24).drop 24).take 24).all (fun c => isCode c || c.before args0 about1) = true := by decide +kernel
set_option maxRecDepth 65536 in
theorem w_t5 : (((((words1.drop 24).drop 24).drop 24).drop 24).take 24).all (fun c => isCode c || c.before args0 about1) = true := by decide +kernel
set_option maxRecDepth 65536 in
theorem w_t6 : ((((((words1.drop 24).drop 24).drop 24).drop 24).drop 24).take 24).all (fun c => isCode c || c.before args0 about1) = true := by decide +kernel
set_option maxRecDepth 65536 in
theorem w_t7 : (((((((words1.drop 24).drop 24).drop 24).drop 24).drop 24).drop 24).take 24).all (fun c => isCode c || c.before args0 about1) = true := by decide +kernel
set_option maxRecDepth 65536 in
theorem w_t8 : ((((((((words1.drop 24).drop 24).drop 24).drop 24).drop 24).drop 24).drop 24).take 24).all (fun c => isCode c || c.before args0 about1) = true := by decide +kernel
set_option maxRecDepth 65536 in
theorem w_t9 : ((((((((words1.drop 24).drop 24).drop 24).drop 24).drop 24).drop 24).drop 24).drop 24).all (fun c => isCode c || c.before args0 about1) = true := by decide +kernel
theorem w_tables : (allAtoms (Jvm.Cond.code x code maxLocals ret :: tables_1)).before args0 about1 = true := by
  rw [allAtoms_all]
  show words1.all (fun c => c.before args0 about1) = true
  refine all_split ?_ w_codes
  rw [← List.take_append_drop 24 words1, List.all_append, w_t1, ← List.take_append_drop 24 (words1.drop 24), List.all_append, w_t2, ← List.take_append_drop 24 ((words1.drop 24).drop 24), List.all_append, w_t3, ← List.take_append_drop 24 (((words1.drop 24).drop 24).drop 24), List.all_append, w_t4, ← List.take_append_drop 24 ((((words1.drop 24).drop 24).drop 24).drop 24), List.all_append, w_t5, ← List.take_append_drop 24 (((((words1.drop 24).drop 24).drop 24).drop 24).drop 24), List.all_append, w_t6, ← List.take_append_drop 24 ((((((words1.drop 24).drop 24).drop 24).drop 24).drop 24).drop 24), List.all_append, w_t7, ← List.take_append_drop 24 (((((((words1.drop 24).drop 24).drop 24).drop 24).drop 24).drop 24).drop 24), List.all_append, w_t8, w_t9]
  rfl
set_option maxRecDepth 65536 in
theorem w_rest : rest_1_c.before args0 about1 = true := by decide +kernel
set_option maxRecDepth 65536 in
theorem w_case : (Jvm.Cond.and given_1 narrow_1).before args0 about1 = true := by decide +kernel
set_option maxRecDepth 65536 in
theorem w_consts : constsHeld consts_1 about1 := Jvm.Lit.constsHeldB_iff.mp (by decide +kernel)
theorem w_applies : (headSpec (Jvm.Cond.code x code maxLocals ret :: tables_1) room_1).applies x e0.platform about1 = true :=
  (Spec.applies_iff w_frames).mpr ⟨w_running, w_runnable, w_alone, w_named, w_hears, w_ripe, w_room, w_tables⟩
theorem atStart : AtStart classFile x code maxLocals ret World_1 tables_1 room_1 Calls_1 rest_1 Pre_1 launch0 p0 e0 about1 theMethod args0 below0 :=
  ⟨lists_1, trivial, launch0.admits_env _ _ _, launch0.least_env, fairChoices_fair.cas, fairChoices_fair.clock, w_frames, w_args, w_heap, w_applies, ⟨w_consts, trivial⟩, w_rest, w_case⟩
end start1
theorem witness_1 : WitnessClaimed_1 := ⟨start1.p0, start1.e0, start1.about1, start1.theMethod, start1.args0, start1.below0, start1.atStart⟩
end Jvm.Pilot.@@N@@
